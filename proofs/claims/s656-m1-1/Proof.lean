import JvmDerived
import JvmDerived.Pilot.@@N@@Statement
import JvmDerived.Pilot.@@N@@Code
set_option linter.unusedVariables false
set_option linter.unusedSimpArgs false
@@BLOCK:NumsL.lean.txt@@
namespace Jvm.RoadKit
open Sem ClassFile Op Lib Jvm.Stand Jvm.Free Jvm.LawKit
section Own
variable {p : Program} {l : Launch} {e : Env} {R : Room} {s : State} {m : MethodId} {args : Array Value} {below : List Frame} {meth : Method} {c : Code} {T : State} {locs : List Loc} {cells slots : Nat}
/-- from t the run ends in a return of which Q holds -/
def OGo (p : Program) (e : Env) (below : List Frame) (s : State) (Q : Option Value → Heap → List Loc → Prop) (C N : Nat) (t : State) : Prop :=
  ∃ s₂ o, Steps p.tables e below t s₂ ∧ s₂.status = .running ∧ Ended s₂ below o ∧ ∃ v L, o = .returned v ∧ Q v s₂.heap L ∧ FrameEnd s o s₂ L C N
theorem OGo.st {Q : Option Value → Heap → List Loc → Prop} {C N : Nat} {t t' : State} (k : ∀ target, Steps p.tables e below t' target → Steps p.tables e below t target) (h : OGo p e below s Q C N t') : OGo p e below s Q C N t := by
  obtain ⟨s₂, o, a, r⟩ := h; exact ⟨s₂, o, k _ a, r⟩
theorem oretW {Q : Option Value → Heap → List Loc → Prop} {C N : Nat} (X : Stand p l e R s m args below meth c T locs cells slots) (hx : p.tables.exec = Jvm.exec) (hlk : meth.locks = false) {pc : Nat} {Ls : Array Slot} {w : Value} {t : FieldType} {i : Instr} {rest : List Value} (hret : meth.sig.returnType = some t) (hn : narrow t w = w)
    (hi : (i = .ireturn ∧ (t = .int ∨ t = .boolean ∨ t = .byte ∨ t = .char ∨ t = .short) ∧ ∃ z, w = .int z) ∨ (i = .lreturn ∧ t = .long ∧ ∃ z, w = .long z) ∨ (i = .dreturn ∧ t = .double ∧ ∃ z, w = .double z) ∨ (i = .freturn ∧ t = .float ∧ ∃ z, w = .float z) ∨ (i = .areturn ∧ t.isReference = true ∧ w.isRef = true))
    (hd : decode c.code pc = .ok (i, 1)) {h : Heap} (hh : T.heap = h) (hq : Q (some w) h locs) (hC : cells ≤ C) (hN : slots ≤ N) : OGo p e below s Q C N (T.setTop (mkF m pc Ls (w :: rest))) := by
  obtain ⟨fs, hr, hrun, hended, hW, hsame⟩ := X.leave (v := some w) (fun h => by rw [hret] at h; cases h) hlk
  exact ⟨_, _, retOut X hx hret hn hi hd hr, hrun, hended, _, _, rfl, hh ▸ hq, ⟨_, rfl⟩, hW, hsame.mono hC hN⟩
theorem oretI {Q : Option Value → Heap → List Loc → Prop} {C N : Nat} (X : Stand p l e R s m args below meth c T locs cells slots) (hx : p.tables.exec = Jvm.exec) (hlk : meth.locks = false) {pc : Nat} {Ls : Array Slot} {z : Int32} {rest : List Value} (hret : meth.sig.returnType = some .int)
    (hd : decode c.code pc = .ok (.ireturn, 1)) {h : Heap} (hh : T.heap = h) (hq : Q (some (.int z)) h locs) (hC : cells ≤ C) (hN : slots ≤ N) : OGo p e below s Q C N (T.setTop (mkF m pc Ls (.int z :: rest))) :=
  oretW X hx hlk hret rfl (Or.inl ⟨rfl, Or.inl rfl, _, rfl⟩) hd hh hq hC hN
theorem oretJ {Q : Option Value → Heap → List Loc → Prop} {C N : Nat} (X : Stand p l e R s m args below meth c T locs cells slots) (hx : p.tables.exec = Jvm.exec) (hlk : meth.locks = false) {pc : Nat} {Ls : Array Slot} {z : Int64} {rest : List Value} (hret : meth.sig.returnType = some .long)
    (hd : decode c.code pc = .ok (.lreturn, 1)) {h : Heap} (hh : T.heap = h) (hq : Q (some (.long z)) h locs) (hC : cells ≤ C) (hN : slots ≤ N) : OGo p e below s Q C N (T.setTop (mkF m pc Ls (.long z :: rest))) :=
  oretW X hx hlk hret rfl (Or.inr (Or.inl ⟨rfl, rfl, _, rfl⟩)) hd hh hq hC hN
theorem onarR {t : FieldType} {w : Value} (ht : t.isReference = true) (hw : w.isRef = true) : narrow t w = w := by
  cases t <;> first | (cases ht; done) | (cases w <;> first | rfl | (cases hw; done))
theorem ofitR {t : FieldType} {w : Value} (ht : t.isReference = true) (hw : w.isRef = true) : fits t w = true := by
  cases t <;> first | (cases ht; done) | (cases w <;> first | rfl | (cases hw; done))
theorem oretA {Q : Option Value → Heap → List Loc → Prop} {C N : Nat} (X : Stand p l e R s m args below meth c T locs cells slots) (hx : p.tables.exec = Jvm.exec) (hlk : meth.locks = false) {pc : Nat} {Ls : Array Slot} {w : Value} {t : FieldType} {rest : List Value} (hret : meth.sig.returnType = some t) (ht : t.isReference = true) (hw : w.isRef = true)
    (hd : decode c.code pc = .ok (.areturn, 1)) {h : Heap} (hh : T.heap = h) (hq : Q (some w) h locs) (hC : cells ≤ C) (hN : slots ≤ N) : OGo p e below s Q C N (T.setTop (mkF m pc Ls (w :: rest))) :=
  oretW X hx hlk hret (onarR ht hw) (Or.inr (Or.inr (Or.inr (Or.inr ⟨rfl, ht, hw⟩)))) hd hh hq hC hN
theorem oretN {Q : Option Value → Heap → List Loc → Prop} {C N : Nat} (X : Stand p l e R s m args below meth c T locs cells slots) (hx : p.tables.exec = Jvm.exec) (hlk : meth.locks = false) {pc : Nat} {Ls : Array Slot} {z z' : Int32} {t : FieldType} {rest : List Value} (hret : meth.sig.returnType = some t) (ht : t = .boolean ∨ t = .byte ∨ t = .char ∨ t = .short)
    (hd : decode c.code pc = .ok (.ireturn, 1)) (hz : nar t z = z') {h : Heap} (hh : T.heap = h) (hq : Q (some (.int z')) h locs) (hC : cells ≤ C) (hN : slots ≤ N) : OGo p e below s Q C N (T.setTop (mkF m pc Ls (.int z :: rest))) := by
  subst hz
  obtain ⟨fs, hr, hrun, hended, hW, hsame⟩ := X.leave (v := some (.int (nar t z))) (fun h => by rw [hret] at h; cases h) hlk
  exact ⟨_, _, retN X hx hret ht hd hr, hrun, hended, _, _, rfl, hh ▸ hq, ⟨_, rfl⟩, hW, hsame.mono hC hN⟩
theorem oret0 {Q : Option Value → Heap → List Loc → Prop} {C N : Nat} (X : Stand p l e R s m args below meth c T locs cells slots) (hx : p.tables.exec = Jvm.exec) (hlk : meth.locks = false) {pc : Nat} {Ls : Array Slot} (hret : meth.sig.returnType = none)
    (hd : decode c.code pc = .ok (.return_, 1)) {h : Heap} (hh : T.heap = h) (hq : Q none h locs) (hC : cells ≤ C) (hN : slots ≤ N) : OGo p e below s Q C N (T.setTop (mkF m pc Ls [])) := by
  obtain ⟨fs, hr, hrun, hended, hW, hsame⟩ := X.leave (v := none) (fun _ => rfl) hlk
  exact ⟨_, _, X.returnOut hx hret hd hr, hrun, hended, _, _, rfl, hh ▸ hq, ⟨_, rfl⟩, hW, hsame.mono hC hN⟩
theorem olrem {tb : Tables} [Ours tb] {target : State} {g : JFrame} (h : At T m c below) (hx : tb.exec = Jvm.exec) (hg : g.method = m) {x y : Int64} {rest : List Value} (hd : decode c.code g.pc = .ok (.lrem, 1)) (hs : g.stack = .long y :: .long x :: rest) (hy : y ≠ 0)
    (hr : Steps tb e below (T.setTop { g with pc := g.pc + 1, stack := .long (x % y) :: rest }) target) : Steps tb e below (T.setTop g) target :=
  XS.lrem h hx hg hd hs hy (by rw [lrem_mod]; exact hr)
theorem olc_lt (x y : Int64) : lcmpW x y < 0 ↔ x < y := by rw [lcW]; exact lc_lt x y
theorem olc_gt (x y : Int64) : 0 < lcmpW x y ↔ y < x := by rw [lcW]; exact lc_gt x y
theorem olc_eq (x y : Int64) : lcmpW x y = 0 ↔ x = y := by rw [lcW]; exact lc_eq x y
theorem onilP {v : Int} : ∀ q ∈ ([] : List (Int × Int)), q.1 ≠ v := fun _ q => nomatch q
theorem oconsP {v a b : Int} {l : List (Int × Int)} (h : a ≠ v) (t : ∀ q ∈ l, q.1 ≠ v) : ∀ q ∈ (a, b) :: l, q.1 ≠ v := fun q hq => (List.mem_cons.mp hq).elim (fun u => by rw [u]; exact h) (t q)
theorem oint_ne {z k : Int32} {K : Int} (h : ¬ z = k) (hk : k.toInt = K) : K ≠ z.toInt := fun q => h (Int32.toInt_inj.mp (by rw [hk, q]))
theorem ofld_eq {Z : State} {t : Term} {C n d : String} {a : Addr} {k : Int32} (h : (Cond.eq (Term.field t C n d) (Term.int k)).value args Z none Z [] = some true) (ev : t.eval args Z none [] Z = some (.ref a)) : Fld Z Z.heap a C n d (.int k) := by
  apply Fld.start
  have q := fld_at (args := args) (first := Z) (o := none) (idx := []) (s := Z) (C := C) (n := n) (dd := d) ev
  simp only [Cond.value, q, Term.int_eval] at h
  cases hv : Z.fieldOf? a C n d with
  | none => simp [hv] at h
  | some v => cases v <;> simp [hv] at h <;> simp [h]
section Imp
variable {E a b : Int32}
theorem oLL (h : E < a) (k : a.toInt ≤ b.toInt) : E < b := by rw [Int32.lt_iff_toInt_lt] at *; omega
theorem oLnG (h : E < a) (k : a.toInt ≤ b.toInt + 1) : ¬ b < E := by rw [Int32.lt_iff_toInt_lt] at *; omega
theorem oLnE (h : E < a) (k : a.toInt ≤ b.toInt) : ¬ E = b := fun q => by subst q; rw [Int32.lt_iff_toInt_lt] at h; omega
theorem oGG (h : a < E) (k : b.toInt ≤ a.toInt) : b < E := by rw [Int32.lt_iff_toInt_lt] at *; omega
theorem oGnL (h : a < E) (k : b.toInt ≤ a.toInt + 1) : ¬ E < b := by rw [Int32.lt_iff_toInt_lt] at *; omega
theorem oGnE (h : a < E) (k : b.toInt ≤ a.toInt) : ¬ E = b := fun q => by subst q; rw [Int32.lt_iff_toInt_lt] at h; omega
theorem onLnL (h : ¬ E < a) (k : b.toInt ≤ a.toInt) : ¬ E < b := by rw [Int32.lt_iff_toInt_lt] at *; omega
theorem onLG (h : ¬ E < a) (k : b.toInt < a.toInt) : b < E := by rw [Int32.lt_iff_toInt_lt] at *; omega
theorem onLnE (h : ¬ E < a) (k : b.toInt < a.toInt) : ¬ E = b := fun q => by subst q; rw [Int32.lt_iff_toInt_lt] at h; omega
theorem onGnG (h : ¬ a < E) (k : a.toInt ≤ b.toInt) : ¬ b < E := by rw [Int32.lt_iff_toInt_lt] at *; omega
theorem onGL (h : ¬ a < E) (k : a.toInt < b.toInt) : E < b := by rw [Int32.lt_iff_toInt_lt] at *; omega
theorem onGnE (h : ¬ a < E) (k : a.toInt < b.toInt) : ¬ E = b := fun q => by subst q; rw [Int32.lt_iff_toInt_lt] at h; omega
end Imp
end Own
end Jvm.RoadKit
namespace Jvm.Pilot.@@N@@
open Jvm Jvm.ClassFile Sem Op Lib Jvm.Free Jvm.Stand Jvm.LawKit Jvm.RoadKit Bundle Jvm.Pilot.@@N@@.Jvm.D

theorem d1_0 : decode method_3_code 0 = .ok (.iload_n 2, 1) := by decide +kernel
theorem d1_1 : decode method_3_code 1 = .ok (.iconst 2, 1) := by decide +kernel
theorem d1_2 : decode method_3_code 2 = .ok (.iload_n 3, 1) := by decide +kernel
theorem d1_3 : decode method_3_code 3 = .ok (.imul, 1) := by decide +kernel
theorem d1_4 : decode method_3_code 4 = .ok (.iushr, 1) := by decide +kernel
theorem d1_5 : decode method_3_code 5 = .ok (.iconst 3, 1) := by decide +kernel
theorem d1_6 : decode method_3_code 6 = .ok (.iand, 1) := by decide +kernel
theorem d1_7 : decode method_3_code 7 = .ok (.istore 6, 2) := by decide +kernel
theorem d1_9 : decode method_3_code 9 = .ok (.iload 6, 2) := by decide +kernel
theorem d1_11 : decode method_3_code 11 = .ok (.ifCond .ne 6, 3) := by decide +kernel
theorem d1_14 : decode method_3_code 14 = .ok (.iload 4, 2) := by decide +kernel
theorem d1_16 : decode method_3_code 16 = .ok (.ireturn, 1) := by decide +kernel
theorem d1_17 : decode method_3_code 17 = .ok (.iload 6, 2) := by decide +kernel
theorem d1_19 : decode method_3_code 19 = .ok (.iconst 1, 1) := by decide +kernel
theorem d1_20 : decode method_3_code 20 = .ok (.if_icmp .ne 6, 3) := by decide +kernel
theorem d1_23 : decode method_3_code 23 = .ok (.iload 5, 2) := by decide +kernel
theorem d1_25 : decode method_3_code 25 = .ok (.ireturn, 1) := by decide +kernel
theorem d1_26 : decode method_3_code 26 = .ok (.lload_n 0, 1) := by decide +kernel
theorem d1_27 : decode method_3_code 27 = .ok (.bipush 8, 2) := by decide +kernel
theorem d1_29 : decode method_3_code 29 = .ok (.iload_n 3, 1) := by decide +kernel
theorem d1_30 : decode method_3_code 30 = .ok (.imul, 1) := by decide +kernel
theorem d1_31 : decode method_3_code 31 = .ok (.lushr, 1) := by decide +kernel
theorem d1_32 : decode method_3_code 32 = .ok (.l2i, 1) := by decide +kernel
theorem d1_33 : decode method_3_code 33 = .ok (.i2b, 1) := by decide +kernel
theorem d1_34 : decode method_3_code 34 = .ok (.ireturn, 1) := by decide +kernel
theorem pn_1 : plainName "com/example/assaywire/assaywire/protocol/BytesIndexOfEitherPinLaw" = true := by first | (simp [plainName, overriddenIn]; done) | decide +kernel
theorem ef_1 (m : MethodId) (q0 : Int64) (p1 : Int32) (p2 : Int32) (p3 : Int32) (p4 : Int32) : entryFrame m #[(.long q0), (.int p1), (.int p2), (.int p3), (.int p4)] 7 = mkF m 0 #[.val (.long q0), .second, .val (.int p1), .val (.int p2), .val (.int p3), .val (.int p4), .unset] [] := by first | (simp [entryFrame, mkF, argsToLocals, Value.category]; done) | rfl
def v1_0 (q0 : Int64) (p1 : Int32) (p2 : Int32) (p3 : Int32) (p4 : Int32) : Int32 := (((p1.toUInt32 >>> (((2 : Int32) * p2) &&& 31).toUInt32).toInt32) &&& (3 : Int32))
def f1 (q0 : Int64) (p1 : Int32) (p2 : Int32) (p3 : Int32) (p4 : Int32) : Int32 := (if (v1_0 q0 p1 p2 p3 p4) = (0 : Int32) then (nar .byte p3) else (if (v1_0 q0 p1 p2 p3 p4) = (1 : Int32) then (nar .byte p4) else (nar .byte ((((q0.toUInt64 >>> (((8 : Int32) * p2) &&& 0x3f).toInt64.toUInt64).toInt64).toInt32).toInt8.toInt32))))
def Q1 (Z : State) (q0 : Int64) (p1 : Int32) (p2 : Int32) (p3 : Int32) (p4 : Int32) (h0 : Heap) (n0 : Nat) (v : Option Value) (h : Heap) (L : List Loc) : Prop := v = some (.int (f1 q0 p1 p2 p3 p4)) ∧ Fr n0 L ∧ h = h0
set_option maxRecDepth 65536 in
set_option maxHeartbeats 40000000 in
theorem rm1 (l : Launch) (Z : State) (a0 : Array Value) (hw : ∀ d ∈ tables_1, d.before a0 Z = true) (ws : List Jvm.Cond) (q0 : Int64) (p1 : Int32) (p2 : Int32) (p3 : Int32) (p4 : Int32) (h0 : Heap) (n0 : Nat) (Z0 : n0 ≤ h0.size) :
    MetFree l (⟨"com/example/assaywire/assaywire/protocol/BytesIndexOfEitherPinLaw", "pick", "(JIIBB)B"⟩ : MethodName) (head1 (Jvm.Cond.code (⟨"com/example/assaywire/assaywire/protocol/BytesIndexOfEitherPinLaw", "pick", "(JIIBB)B"⟩ : MethodName) method_3_code 7 (some .byte) :: ws) ({ frames := 0, cells := 0, slots := 0, locals := 0 } : Room)) (fun a U => a = #[(.long q0), (.int p1), (.int p2), (.int p3), (.int p4)] ∧ Z.Warmed39 U.vm ∧ U.heap = h0) (fun _ _ _ _ _ => True) (fun _ U o U' => ∃ v L, o = .returned v ∧ Q1 Z q0 p1 p2 p3 p4 h0 n0 v U'.heap L ∧ FrameEnd U o U' L ({ frames := 0, cells := 0, slots := 0, locals := 0 } : Room).cells ({ frames := 0, cells := 0, slots := 0, locals := 0 } : Room).slots) := by
  refine MetFree.of_bodySF (plainFor_of_name pn_1) hisR ?_
  intro p e s m args below meth c s₁ Bd hml0 hP hK
  obtain ⟨rfl, hZ, hh⟩ := hP
  have hx := Bd.exec
  have hby := Bd.bytes
  have hml : c.maxLocals = 7 := hml0
  have hown : s.vm.findClass "com/example/assaywire/assaywire/protocol/BytesIndexOfEitherPinLaw" = some m.cls := findClass_of_methodNamed Bd.named
  have hnm := (name_of_methodNamed Bd.named Bd.method).1
  have X0 : Stand p l e ({ frames := 0, cells := 0, slots := 0, locals := 0 } : Room) s m #[(.long q0), (.int p1), (.int p2), (.int p3), (.int p4)] below meth c s₁ [] 0 0 := Stand.of_body Bd
  have e0 : s₁.heap = h0 := by rw [← hh, Bd.state]; rfl
  have N0 := Fr.nil n0
  show OGo p e below s (Q1 Z q0 p1 p2 p3 p4 h0 n0) ({ frames := 0, cells := 0, slots := 0, locals := 0 } : Room).cells ({ frames := 0, cells := 0, slots := 0, locals := 0 } : Room).slots _
  refine OGo.st (fun _ k => castTop (ef_1 m q0 p1 p2 p3 p4) k) ?_
  show OGo p e below s _ _ _ (s₁.setTop (mkF m 0 #[.val (.long q0), .second, .val (.int p1), .val (.int p2), .val (.int p3), .val (.int p4), .unset] []))
  refine OGo.st (fun _ k => XS.iloadN X0.here hx rfl (hb hby d1_0) rfl k) ?_
  show OGo p e below s _ _ _ (s₁.setTop (mkF m 1 #[.val (.long q0), .second, .val (.int p1), .val (.int p2), .val (.int p3), .val (.int p4), .unset] [(.int p1)]))
  refine OGo.st (fun _ k => XS.iconst X0.here hx rfl (hb hby d1_1) k) ?_
  show OGo p e below s _ _ _ (s₁.setTop (mkF m 2 #[.val (.long q0), .second, .val (.int p1), .val (.int p2), .val (.int p3), .val (.int p4), .unset] [(.int (2 : Int32)), (.int p1)]))
  refine OGo.st (fun _ k => XS.iloadN X0.here hx rfl (hb hby d1_2) rfl k) ?_
  show OGo p e below s _ _ _ (s₁.setTop (mkF m 3 #[.val (.long q0), .second, .val (.int p1), .val (.int p2), .val (.int p3), .val (.int p4), .unset] [(.int p2), (.int (2 : Int32)), (.int p1)]))
  refine OGo.st (fun _ k => XS.imul X0.here hx rfl (hb hby d1_3) rfl k) ?_
  show OGo p e below s _ _ _ (s₁.setTop (mkF m 4 #[.val (.long q0), .second, .val (.int p1), .val (.int p2), .val (.int p3), .val (.int p4), .unset] [(.int ((2 : Int32) * p2)), (.int p1)]))
  refine OGo.st (fun _ k => XS.iushr X0.here hx rfl (hb hby d1_4) rfl k) ?_
  show OGo p e below s _ _ _ (s₁.setTop (mkF m 5 #[.val (.long q0), .second, .val (.int p1), .val (.int p2), .val (.int p3), .val (.int p4), .unset] [(.int ((p1.toUInt32 >>> (((2 : Int32) * p2) &&& 31).toUInt32).toInt32))]))
  refine OGo.st (fun _ k => XS.iconst X0.here hx rfl (hb hby d1_5) k) ?_
  show OGo p e below s _ _ _ (s₁.setTop (mkF m 6 #[.val (.long q0), .second, .val (.int p1), .val (.int p2), .val (.int p3), .val (.int p4), .unset] [(.int (3 : Int32)), (.int ((p1.toUInt32 >>> (((2 : Int32) * p2) &&& 31).toUInt32).toInt32))]))
  refine OGo.st (fun _ k => XS.iand X0.here hx rfl (hb hby d1_6) rfl k) ?_
  show OGo p e below s _ _ _ (s₁.setTop (mkF m 7 #[.val (.long q0), .second, .val (.int p1), .val (.int p2), .val (.int p3), .val (.int p4), .unset] [(.int (((p1.toUInt32 >>> (((2 : Int32) * p2) &&& 31).toUInt32).toInt32) &&& (3 : Int32)))]))
  refine OGo.st (fun _ k => XS.istore X0.here hx rfl (hb hby d1_7) rfl (l' := #[.val (.long q0), .second, .val (.int p1), .val (.int p2), .val (.int p3), .val (.int p4), .val (.int (v1_0 q0 p1 p2 p3 p4))]) rfl k) ?_
  show OGo p e below s _ _ _ (s₁.setTop (mkF m 9 #[.val (.long q0), .second, .val (.int p1), .val (.int p2), .val (.int p3), .val (.int p4), .val (.int (v1_0 q0 p1 p2 p3 p4))] []))
  refine OGo.st (fun _ k => XS.iload X0.here hx rfl (hb hby d1_9) rfl k) ?_
  show OGo p e below s _ _ _ (s₁.setTop (mkF m 11 #[.val (.long q0), .second, .val (.int p1), .val (.int p2), .val (.int p3), .val (.int p4), .val (.int (v1_0 q0 p1 p2 p3 p4))] [(.int (v1_0 q0 p1 p2 p3 p4))]))
  by_cases hc11 : (v1_0 q0 p1 p2 p3 p4) = (0 : Int32)
  · refine OGo.st (fun _ k => XS.ifNo X0.here hx rfl (hb hby d1_11) rfl ((if0 _ _).trans (teq hc11).2) k) ?_
    show OGo p e below s _ _ _ (s₁.setTop (mkF m 14 #[.val (.long q0), .second, .val (.int p1), .val (.int p2), .val (.int p3), .val (.int p4), .val (.int (v1_0 q0 p1 p2 p3 p4))] []))
    refine OGo.st (fun _ k => XS.iload X0.here hx rfl (hb hby d1_14) rfl k) ?_
    show OGo p e below s _ _ _ (s₁.setTop (mkF m 16 #[.val (.long q0), .second, .val (.int p1), .val (.int p2), .val (.int p3), .val (.int p4), .val (.int (v1_0 q0 p1 p2 p3 p4))] [(.int p3)]))
    exact oretN X0 hx Bd.notSynchronized (t := .byte) Bd.returns (by simp) (hb hby d1_16) rfl e0 ⟨(congrArg (fun z => some (Value.int z)) (show (nar .byte p3) = f1 q0 p1 p2 p3 p4 from Eq.symm (by unfold f1; exact if_pos hc11))), N0, rfl⟩ (by decide) (by decide)
  · refine OGo.st (fun _ k => XS.ifYes X0.here hx rfl (pc0 := 11) (pc' := 17) rfl (hb hby d1_11) rfl ((if0 _ _).trans (feq hc11).2) (by decide) (by decide) k) ?_
    show OGo p e below s _ _ _ (s₁.setTop (mkF m 17 #[.val (.long q0), .second, .val (.int p1), .val (.int p2), .val (.int p3), .val (.int p4), .val (.int (v1_0 q0 p1 p2 p3 p4))] []))
    refine OGo.st (fun _ k => XS.iload X0.here hx rfl (hb hby d1_17) rfl k) ?_
    show OGo p e below s _ _ _ (s₁.setTop (mkF m 19 #[.val (.long q0), .second, .val (.int p1), .val (.int p2), .val (.int p3), .val (.int p4), .val (.int (v1_0 q0 p1 p2 p3 p4))] [(.int (v1_0 q0 p1 p2 p3 p4))]))
    refine OGo.st (fun _ k => XS.iconst X0.here hx rfl (hb hby d1_19) k) ?_
    show OGo p e below s _ _ _ (s₁.setTop (mkF m 20 #[.val (.long q0), .second, .val (.int p1), .val (.int p2), .val (.int p3), .val (.int p4), .val (.int (v1_0 q0 p1 p2 p3 p4))] [(.int (1 : Int32)), (.int (v1_0 q0 p1 p2 p3 p4))]))
    by_cases hc20 : (v1_0 q0 p1 p2 p3 p4) = (1 : Int32)
    · refine OGo.st (fun _ k => XS.icmpNo X0.here hx rfl (hb hby d1_20) rfl (teq hc20).2 k) ?_
      show OGo p e below s _ _ _ (s₁.setTop (mkF m 23 #[.val (.long q0), .second, .val (.int p1), .val (.int p2), .val (.int p3), .val (.int p4), .val (.int (v1_0 q0 p1 p2 p3 p4))] []))
      refine OGo.st (fun _ k => XS.iload X0.here hx rfl (hb hby d1_23) rfl k) ?_
      show OGo p e below s _ _ _ (s₁.setTop (mkF m 25 #[.val (.long q0), .second, .val (.int p1), .val (.int p2), .val (.int p3), .val (.int p4), .val (.int (v1_0 q0 p1 p2 p3 p4))] [(.int p4)]))
      exact oretN X0 hx Bd.notSynchronized (t := .byte) Bd.returns (by simp) (hb hby d1_25) rfl e0 ⟨(congrArg (fun z => some (Value.int z)) (show (nar .byte p4) = f1 q0 p1 p2 p3 p4 from Eq.symm (by unfold f1; exact (if_neg hc11).trans (if_pos hc20)))), N0, rfl⟩ (by decide) (by decide)
    · refine OGo.st (fun _ k => XS.icmpYes X0.here hx rfl (pc0 := 20) (pc' := 26) rfl (hb hby d1_20) rfl (feq hc20).2 (by decide) (by decide) k) ?_
      show OGo p e below s _ _ _ (s₁.setTop (mkF m 26 #[.val (.long q0), .second, .val (.int p1), .val (.int p2), .val (.int p3), .val (.int p4), .val (.int (v1_0 q0 p1 p2 p3 p4))] []))
      refine OGo.st (fun _ k => XS.lloadN X0.here hx rfl (hb hby d1_26) rfl k) ?_
      show OGo p e below s _ _ _ (s₁.setTop (mkF m 27 #[.val (.long q0), .second, .val (.int p1), .val (.int p2), .val (.int p3), .val (.int p4), .val (.int (v1_0 q0 p1 p2 p3 p4))] [(.long q0)]))
      refine OGo.st (fun _ k => XS.bipush X0.here hx rfl (hb hby d1_27) k) ?_
      show OGo p e below s _ _ _ (s₁.setTop (mkF m 29 #[.val (.long q0), .second, .val (.int p1), .val (.int p2), .val (.int p3), .val (.int p4), .val (.int (v1_0 q0 p1 p2 p3 p4))] [(.int (8 : Int32)), (.long q0)]))
      refine OGo.st (fun _ k => XS.iloadN X0.here hx rfl (hb hby d1_29) rfl k) ?_
      show OGo p e below s _ _ _ (s₁.setTop (mkF m 30 #[.val (.long q0), .second, .val (.int p1), .val (.int p2), .val (.int p3), .val (.int p4), .val (.int (v1_0 q0 p1 p2 p3 p4))] [(.int p2), (.int (8 : Int32)), (.long q0)]))
      refine OGo.st (fun _ k => XS.imul X0.here hx rfl (hb hby d1_30) rfl k) ?_
      show OGo p e below s _ _ _ (s₁.setTop (mkF m 31 #[.val (.long q0), .second, .val (.int p1), .val (.int p2), .val (.int p3), .val (.int p4), .val (.int (v1_0 q0 p1 p2 p3 p4))] [(.int ((8 : Int32) * p2)), (.long q0)]))
      refine OGo.st (fun _ k => XS.lushr X0.here hx rfl (hb hby d1_31) rfl k) ?_
      show OGo p e below s _ _ _ (s₁.setTop (mkF m 32 #[.val (.long q0), .second, .val (.int p1), .val (.int p2), .val (.int p3), .val (.int p4), .val (.int (v1_0 q0 p1 p2 p3 p4))] [(.long ((q0.toUInt64 >>> (((8 : Int32) * p2) &&& 0x3f).toInt64.toUInt64).toInt64))]))
      refine OGo.st (fun _ k => XS.l2i X0.here hx rfl (hb hby d1_32) rfl k) ?_
      show OGo p e below s _ _ _ (s₁.setTop (mkF m 33 #[.val (.long q0), .second, .val (.int p1), .val (.int p2), .val (.int p3), .val (.int p4), .val (.int (v1_0 q0 p1 p2 p3 p4))] [(.int (((q0.toUInt64 >>> (((8 : Int32) * p2) &&& 0x3f).toInt64.toUInt64).toInt64).toInt32))]))
      refine OGo.st (fun _ k => XS.i2b X0.here hx rfl (hb hby d1_33) rfl k) ?_
      show OGo p e below s _ _ _ (s₁.setTop (mkF m 34 #[.val (.long q0), .second, .val (.int p1), .val (.int p2), .val (.int p3), .val (.int p4), .val (.int (v1_0 q0 p1 p2 p3 p4))] [(.int ((((q0.toUInt64 >>> (((8 : Int32) * p2) &&& 0x3f).toInt64.toUInt64).toInt64).toInt32).toInt8.toInt32))]))
      exact oretN X0 hx Bd.notSynchronized (t := .byte) Bd.returns (by simp) (hb hby d1_34) rfl e0 ⟨(congrArg (fun z => some (Value.int z)) (show (nar .byte ((((q0.toUInt64 >>> (((8 : Int32) * p2) &&& 0x3f).toInt64.toUInt64).toInt64).toInt32).toInt8.toInt32)) = f1 q0 p1 p2 p3 p4 from Eq.symm (by unfold f1; exact (if_neg hc11).trans (if_neg hc20)))), N0, rfl⟩ (by decide) (by decide)
theorem d3_0 : decode method_4_code 0 = .ok (.iload_n 1, 1) := by decide +kernel
theorem d3_1 : decode method_4_code 1 = .ok (.iload 4, 2) := by decide +kernel
theorem d3_3 : decode method_4_code 3 = .ok (.if_icmp .ge 5, 3) := by decide +kernel
theorem d3_6 : decode method_4_code 6 = .ok (.iconst 0, 1) := by decide +kernel
theorem d3_7 : decode method_4_code 7 = .ok (.ireturn, 1) := by decide +kernel
theorem d3_8 : decode method_4_code 8 = .ok (.iload_n 1, 1) := by decide +kernel
theorem d3_9 : decode method_4_code 9 = .ok (.iload 5, 2) := by decide +kernel
theorem d3_11 : decode method_4_code 11 = .ok (.if_icmp .lt 5, 3) := by decide +kernel
theorem d3_14 : decode method_4_code 14 = .ok (.iconst 0, 1) := by decide +kernel
theorem d3_15 : decode method_4_code 15 = .ok (.ireturn, 1) := by decide +kernel
theorem d3_16 : decode method_4_code 16 = .ok (.aload_n 0, 1) := by decide +kernel
theorem d3_17 : decode method_4_code 17 = .ok (.iload_n 1, 1) := by decide +kernel
theorem d3_18 : decode method_4_code 18 = .ok (.baload, 1) := by decide +kernel
theorem d3_19 : decode method_4_code 19 = .ok (.iload_n 2, 1) := by decide +kernel
theorem d3_20 : decode method_4_code 20 = .ok (.if_icmp .eq 10, 3) := by decide +kernel
theorem d3_23 : decode method_4_code 23 = .ok (.aload_n 0, 1) := by decide +kernel
theorem d3_24 : decode method_4_code 24 = .ok (.iload_n 1, 1) := by decide +kernel
theorem d3_25 : decode method_4_code 25 = .ok (.baload, 1) := by decide +kernel
theorem d3_26 : decode method_4_code 26 = .ok (.iload_n 3, 1) := by decide +kernel
theorem d3_27 : decode method_4_code 27 = .ok (.if_icmp .ne 7, 3) := by decide +kernel
theorem d3_30 : decode method_4_code 30 = .ok (.iconst 1, 1) := by decide +kernel
theorem d3_31 : decode method_4_code 31 = .ok (.goto 4, 3) := by decide +kernel
theorem d3_34 : decode method_4_code 34 = .ok (.iconst 0, 1) := by decide +kernel
theorem d3_35 : decode method_4_code 35 = .ok (.ireturn, 1) := by decide +kernel
theorem pn_3 : plainName "com/example/assaywire/assaywire/protocol/BytesIndexOfEitherPinLaw" = true := by first | (simp [plainName, overriddenIn]; done) | decide +kernel
theorem ef_3L0 (m : MethodId) (o0 : Addr) (p2 : Int32) (p3 : Int32) (p4 : Int32) (p5 : Int32) : entryFrame m #[(.ref o0), (.int (0 : Int32)), (.int p2), (.int p3), (.int p4), (.int p5)] 6 = mkF m 0 #[.val (.ref o0), .val (.int (0 : Int32)), .val (.int p2), .val (.int p3), .val (.int p4), .val (.int p5)] [] := by first | (simp [entryFrame, mkF, argsToLocals, Value.category]; done) | rfl
def f3L0 (p2 : Int32) (p3 : Int32) (p4 : Int32) (p5 : Int32) (x0 : Int32) : Int32 := (if (0 : Int32) < p4 then (0 : Int32) else (if (0 : Int32) < p5 then (if x0 = p2 then (1 : Int32) else (if x0 = p3 then (1 : Int32) else (0 : Int32))) else (0 : Int32)))
def Q3L0 (Z : State) (o0 : Addr) (p2 : Int32) (p3 : Int32) (p4 : Int32) (p5 : Int32) (k_o0 : ClassId) (x0 : Int32) (x1 : Int32) (x2 : Int32) (x3 : Int32) (x4 : Int32) (h0 : Heap) (n0 : Nat) (v : Option Value) (h : Heap) (L : List Loc) : Prop := v = some (.int (f3L0 p2 p3 p4 p5 x0)) ∧ Fr n0 L ∧ h = h0
set_option maxRecDepth 65536 in
set_option maxHeartbeats 40000000 in
theorem rm3L0 (l : Launch) (Z : State) (a0 : Array Value) (hw : ∀ d ∈ tables_1, d.before a0 Z = true) (ws : List Jvm.Cond) (o0 : Addr) (p2 : Int32) (p3 : Int32) (p4 : Int32) (p5 : Int32) (k_o0 : ClassId) (x0 : Int32) (x1 : Int32) (x2 : Int32) (x3 : Int32) (x4 : Int32) (h0 : Heap) (n0 : Nat) (Z0 : n0 ≤ h0.size) (V_o0 : Arv Z h0 o0 k_o0 .byte (5 : Int32) [(.int x0), (.int x1), (.int x2), (.int x3), (.int x4)] (.int (0 : Int32))) :
    MetFree l (⟨"com/example/assaywire/assaywire/protocol/BytesIndexOfEitherPinLaw", "hit", "([BIBBII)Z"⟩ : MethodName) (head1 (Jvm.Cond.code (⟨"com/example/assaywire/assaywire/protocol/BytesIndexOfEitherPinLaw", "hit", "([BIBBII)Z"⟩ : MethodName) method_4_code 6 (some .boolean) :: ws) ({ frames := 0, cells := 0, slots := 0, locals := 0 } : Room)) (fun a U => a = #[(.ref o0), (.int (0 : Int32)), (.int p2), (.int p3), (.int p4), (.int p5)] ∧ Z.Warmed39 U.vm ∧ U.heap = h0) (fun _ _ _ _ _ => True) (fun _ U o U' => ∃ v L, o = .returned v ∧ Q3L0 Z o0 p2 p3 p4 p5 k_o0 x0 x1 x2 x3 x4 h0 n0 v U'.heap L ∧ FrameEnd U o U' L ({ frames := 0, cells := 0, slots := 0, locals := 0 } : Room).cells ({ frames := 0, cells := 0, slots := 0, locals := 0 } : Room).slots) := by
  refine MetFree.of_bodySF (plainFor_of_name pn_3) hisR ?_
  intro p e s m args below meth c s₁ Bd hml0 hP hK
  obtain ⟨rfl, hZ, hh⟩ := hP
  have hx := Bd.exec
  have hby := Bd.bytes
  have hml : c.maxLocals = 6 := hml0
  have hown : s.vm.findClass "com/example/assaywire/assaywire/protocol/BytesIndexOfEitherPinLaw" = some m.cls := findClass_of_methodNamed Bd.named
  have hnm := (name_of_methodNamed Bd.named Bd.method).1
  have X0 : Stand p l e ({ frames := 0, cells := 0, slots := 0, locals := 0 } : Room) s m #[(.ref o0), (.int (0 : Int32)), (.int p2), (.int p3), (.int p4), (.int p5)] below meth c s₁ [] 0 0 := Stand.of_body Bd
  have e0 : s₁.heap = h0 := by rw [← hh, Bd.state]; rfl
  have N0 := Fr.nil n0
  show OGo p e below s (Q3L0 Z o0 p2 p3 p4 p5 k_o0 x0 x1 x2 x3 x4 h0 n0) ({ frames := 0, cells := 0, slots := 0, locals := 0 } : Room).cells ({ frames := 0, cells := 0, slots := 0, locals := 0 } : Room).slots _
  refine OGo.st (fun _ k => castTop (ef_3L0 m o0 p2 p3 p4 p5) k) ?_
  show OGo p e below s _ _ _ (s₁.setTop (mkF m 0 #[.val (.ref o0), .val (.int (0 : Int32)), .val (.int p2), .val (.int p3), .val (.int p4), .val (.int p5)] []))
  refine OGo.st (fun _ k => XS.iloadN X0.here hx rfl (hb hby d3_0) rfl k) ?_
  show OGo p e below s _ _ _ (s₁.setTop (mkF m 1 #[.val (.ref o0), .val (.int (0 : Int32)), .val (.int p2), .val (.int p3), .val (.int p4), .val (.int p5)] [(.int (0 : Int32))]))
  refine OGo.st (fun _ k => XS.iload X0.here hx rfl (hb hby d3_1) rfl k) ?_
  show OGo p e below s _ _ _ (s₁.setTop (mkF m 3 #[.val (.ref o0), .val (.int (0 : Int32)), .val (.int p2), .val (.int p3), .val (.int p4), .val (.int p5)] [(.int p4), (.int (0 : Int32))]))
  by_cases hc3 : (0 : Int32) < p4
  · refine OGo.st (fun _ k => XS.icmpNo X0.here hx rfl (hb hby d3_3) rfl (tlt hc3).2.1 k) ?_
    show OGo p e below s _ _ _ (s₁.setTop (mkF m 6 #[.val (.ref o0), .val (.int (0 : Int32)), .val (.int p2), .val (.int p3), .val (.int p4), .val (.int p5)] []))
    refine OGo.st (fun _ k => XS.iconst X0.here hx rfl (hb hby d3_6) k) ?_
    show OGo p e below s _ _ _ (s₁.setTop (mkF m 7 #[.val (.ref o0), .val (.int (0 : Int32)), .val (.int p2), .val (.int p3), .val (.int p4), .val (.int p5)] [(.int (0 : Int32))]))
    exact oretN X0 hx Bd.notSynchronized (t := .boolean) Bd.returns (by simp) (hb hby d3_7) (z' := (0 : Int32)) (by decide) e0 ⟨(congrArg (fun z => some (Value.int z)) (show (0 : Int32) = f3L0 p2 p3 p4 p5 x0 from Eq.symm (by unfold f3L0; exact if_pos hc3))), N0, rfl⟩ (by decide) (by decide)
  · refine OGo.st (fun _ k => XS.icmpYes X0.here hx rfl (pc0 := 3) (pc' := 8) rfl (hb hby d3_3) rfl (flt hc3).2.1 (by decide) (by decide) k) ?_
    show OGo p e below s _ _ _ (s₁.setTop (mkF m 8 #[.val (.ref o0), .val (.int (0 : Int32)), .val (.int p2), .val (.int p3), .val (.int p4), .val (.int p5)] []))
    refine OGo.st (fun _ k => XS.iloadN X0.here hx rfl (hb hby d3_8) rfl k) ?_
    show OGo p e below s _ _ _ (s₁.setTop (mkF m 9 #[.val (.ref o0), .val (.int (0 : Int32)), .val (.int p2), .val (.int p3), .val (.int p4), .val (.int p5)] [(.int (0 : Int32))]))
    refine OGo.st (fun _ k => XS.iload X0.here hx rfl (hb hby d3_9) rfl k) ?_
    show OGo p e below s _ _ _ (s₁.setTop (mkF m 11 #[.val (.ref o0), .val (.int (0 : Int32)), .val (.int p2), .val (.int p3), .val (.int p4), .val (.int p5)] [(.int p5), (.int (0 : Int32))]))
    by_cases hc11 : (0 : Int32) < p5
    · refine OGo.st (fun _ k => XS.icmpYes X0.here hx rfl (pc0 := 11) (pc' := 16) rfl (hb hby d3_11) rfl (tlt hc11).1 (by decide) (by decide) k) ?_
      show OGo p e below s _ _ _ (s₁.setTop (mkF m 16 #[.val (.ref o0), .val (.int (0 : Int32)), .val (.int p2), .val (.int p3), .val (.int p4), .val (.int p5)] []))
      refine OGo.st (fun _ k => XS.aloadN X0.here hx rfl (hb hby d3_16) rfl rfl k) ?_
      show OGo p e below s _ _ _ (s₁.setTop (mkF m 17 #[.val (.ref o0), .val (.int (0 : Int32)), .val (.int p2), .val (.int p3), .val (.int p4), .val (.int p5)] [(.ref o0)]))
      refine OGo.st (fun _ k => XS.iloadN X0.here hx rfl (hb hby d3_17) rfl k) ?_
      show OGo p e below s _ _ _ (s₁.setTop (mkF m 18 #[.val (.ref o0), .val (.int (0 : Int32)), .val (.int p2), .val (.int p3), .val (.int p4), .val (.int p5)] [(.int (0 : Int32)), (.ref o0)]))
      obtain ⟨cl1, Ar1, q1, Sz1, Nn1, Hs1, Gs1⟩ := id V_o0
      have hin1 : ¬ ((0 : Int32) < 0 ∨ cl1.slots.size ≤ ((0 : Int32)).toNatClampNeg) := inb_of Sz1 ⟨by decide, by decide⟩
      have hat1 : cl1.slots[((0 : Int32)).toNatClampNeg]? = some (.int x0) := Hs1.at hin1 rfl
      refine OGo.st (fun _ k => X0.baloadBytes hx (j := (0 : Int32)) (v := (.int x0)) (by rw [e0]; exact Ar1.1) (State.isArrayOf_alike hZ.alike Ar1.2.1) Ar1.2.2 hin1 hat1 (g := (mkF m 18 #[.val (.ref o0), .val (.int (0 : Int32)), .val (.int p2), .val (.int p3), .val (.int p4), .val (.int p5)] [(.int (0 : Int32)), (.ref o0)])) rfl rfl (hb hby d3_18) _ k) ?_
      show OGo p e below s _ _ _ (s₁.setTop (mkF m 19 #[.val (.ref o0), .val (.int (0 : Int32)), .val (.int p2), .val (.int p3), .val (.int p4), .val (.int p5)] [(.int x0)]))
      refine OGo.st (fun _ k => XS.iloadN X0.here hx rfl (hb hby d3_19) rfl k) ?_
      show OGo p e below s _ _ _ (s₁.setTop (mkF m 20 #[.val (.ref o0), .val (.int (0 : Int32)), .val (.int p2), .val (.int p3), .val (.int p4), .val (.int p5)] [(.int p2), (.int x0)]))
      by_cases hc20 : x0 = p2
      · refine OGo.st (fun _ k => XS.icmpYes X0.here hx rfl (pc0 := 20) (pc' := 30) rfl (hb hby d3_20) rfl (teq hc20).1 (by decide) (by decide) k) ?_
        show OGo p e below s _ _ _ (s₁.setTop (mkF m 30 #[.val (.ref o0), .val (.int (0 : Int32)), .val (.int p2), .val (.int p3), .val (.int p4), .val (.int p5)] []))
        refine OGo.st (fun _ k => XS.iconst X0.here hx rfl (hb hby d3_30) k) ?_
        show OGo p e below s _ _ _ (s₁.setTop (mkF m 31 #[.val (.ref o0), .val (.int (0 : Int32)), .val (.int p2), .val (.int p3), .val (.int p4), .val (.int p5)] [(.int (1 : Int32))]))
        refine OGo.st (fun _ k => XS.goto X0.here hx rfl (pc0 := 31) (pc' := 35) rfl (hb hby d3_31) (by decide) (by decide) k) ?_
        show OGo p e below s _ _ _ (s₁.setTop (mkF m 35 #[.val (.ref o0), .val (.int (0 : Int32)), .val (.int p2), .val (.int p3), .val (.int p4), .val (.int p5)] [(.int (1 : Int32))]))
        exact oretN X0 hx Bd.notSynchronized (t := .boolean) Bd.returns (by simp) (hb hby d3_35) (z' := (1 : Int32)) (by decide) e0 ⟨(congrArg (fun z => some (Value.int z)) (show (1 : Int32) = f3L0 p2 p3 p4 p5 x0 from Eq.symm (by unfold f3L0; exact (if_neg hc3).trans ((if_pos hc11).trans (if_pos hc20))))), N0, rfl⟩ (by decide) (by decide)
      · refine OGo.st (fun _ k => XS.icmpNo X0.here hx rfl (hb hby d3_20) rfl (feq hc20).1 k) ?_
        show OGo p e below s _ _ _ (s₁.setTop (mkF m 23 #[.val (.ref o0), .val (.int (0 : Int32)), .val (.int p2), .val (.int p3), .val (.int p4), .val (.int p5)] []))
        refine OGo.st (fun _ k => XS.aloadN X0.here hx rfl (hb hby d3_23) rfl rfl k) ?_
        show OGo p e below s _ _ _ (s₁.setTop (mkF m 24 #[.val (.ref o0), .val (.int (0 : Int32)), .val (.int p2), .val (.int p3), .val (.int p4), .val (.int p5)] [(.ref o0)]))
        refine OGo.st (fun _ k => XS.iloadN X0.here hx rfl (hb hby d3_24) rfl k) ?_
        show OGo p e below s _ _ _ (s₁.setTop (mkF m 25 #[.val (.ref o0), .val (.int (0 : Int32)), .val (.int p2), .val (.int p3), .val (.int p4), .val (.int p5)] [(.int (0 : Int32)), (.ref o0)]))
        obtain ⟨cl2, Ar2, q2, Sz2, Nn2, Hs2, Gs2⟩ := id V_o0
        have hin2 : ¬ ((0 : Int32) < 0 ∨ cl2.slots.size ≤ ((0 : Int32)).toNatClampNeg) := inb_of Sz2 ⟨by decide, by decide⟩
        have hat2 : cl2.slots[((0 : Int32)).toNatClampNeg]? = some (.int x0) := Hs2.at hin2 rfl
        refine OGo.st (fun _ k => X0.baloadBytes hx (j := (0 : Int32)) (v := (.int x0)) (by rw [e0]; exact Ar2.1) (State.isArrayOf_alike hZ.alike Ar2.2.1) Ar2.2.2 hin2 hat2 (g := (mkF m 25 #[.val (.ref o0), .val (.int (0 : Int32)), .val (.int p2), .val (.int p3), .val (.int p4), .val (.int p5)] [(.int (0 : Int32)), (.ref o0)])) rfl rfl (hb hby d3_25) _ k) ?_
        show OGo p e below s _ _ _ (s₁.setTop (mkF m 26 #[.val (.ref o0), .val (.int (0 : Int32)), .val (.int p2), .val (.int p3), .val (.int p4), .val (.int p5)] [(.int x0)]))
        refine OGo.st (fun _ k => XS.iloadN X0.here hx rfl (hb hby d3_26) rfl k) ?_
        show OGo p e below s _ _ _ (s₁.setTop (mkF m 27 #[.val (.ref o0), .val (.int (0 : Int32)), .val (.int p2), .val (.int p3), .val (.int p4), .val (.int p5)] [(.int p3), (.int x0)]))
        by_cases hc27 : x0 = p3
        · refine OGo.st (fun _ k => XS.icmpNo X0.here hx rfl (hb hby d3_27) rfl (teq hc27).2 k) ?_
          show OGo p e below s _ _ _ (s₁.setTop (mkF m 30 #[.val (.ref o0), .val (.int (0 : Int32)), .val (.int p2), .val (.int p3), .val (.int p4), .val (.int p5)] []))
          refine OGo.st (fun _ k => XS.iconst X0.here hx rfl (hb hby d3_30) k) ?_
          show OGo p e below s _ _ _ (s₁.setTop (mkF m 31 #[.val (.ref o0), .val (.int (0 : Int32)), .val (.int p2), .val (.int p3), .val (.int p4), .val (.int p5)] [(.int (1 : Int32))]))
          refine OGo.st (fun _ k => XS.goto X0.here hx rfl (pc0 := 31) (pc' := 35) rfl (hb hby d3_31) (by decide) (by decide) k) ?_
          show OGo p e below s _ _ _ (s₁.setTop (mkF m 35 #[.val (.ref o0), .val (.int (0 : Int32)), .val (.int p2), .val (.int p3), .val (.int p4), .val (.int p5)] [(.int (1 : Int32))]))
          exact oretN X0 hx Bd.notSynchronized (t := .boolean) Bd.returns (by simp) (hb hby d3_35) (z' := (1 : Int32)) (by decide) e0 ⟨(congrArg (fun z => some (Value.int z)) (show (1 : Int32) = f3L0 p2 p3 p4 p5 x0 from Eq.symm (by unfold f3L0; exact (if_neg hc3).trans ((if_pos hc11).trans ((if_neg hc20).trans (if_pos hc27)))))), N0, rfl⟩ (by decide) (by decide)
        · refine OGo.st (fun _ k => XS.icmpYes X0.here hx rfl (pc0 := 27) (pc' := 34) rfl (hb hby d3_27) rfl (feq hc27).2 (by decide) (by decide) k) ?_
          show OGo p e below s _ _ _ (s₁.setTop (mkF m 34 #[.val (.ref o0), .val (.int (0 : Int32)), .val (.int p2), .val (.int p3), .val (.int p4), .val (.int p5)] []))
          refine OGo.st (fun _ k => XS.iconst X0.here hx rfl (hb hby d3_34) k) ?_
          show OGo p e below s _ _ _ (s₁.setTop (mkF m 35 #[.val (.ref o0), .val (.int (0 : Int32)), .val (.int p2), .val (.int p3), .val (.int p4), .val (.int p5)] [(.int (0 : Int32))]))
          exact oretN X0 hx Bd.notSynchronized (t := .boolean) Bd.returns (by simp) (hb hby d3_35) (z' := (0 : Int32)) (by decide) e0 ⟨(congrArg (fun z => some (Value.int z)) (show (0 : Int32) = f3L0 p2 p3 p4 p5 x0 from Eq.symm (by unfold f3L0; exact (if_neg hc3).trans ((if_pos hc11).trans ((if_neg hc20).trans (if_neg hc27)))))), N0, rfl⟩ (by decide) (by decide)
    · refine OGo.st (fun _ k => XS.icmpNo X0.here hx rfl (hb hby d3_11) rfl (flt hc11).1 k) ?_
      show OGo p e below s _ _ _ (s₁.setTop (mkF m 14 #[.val (.ref o0), .val (.int (0 : Int32)), .val (.int p2), .val (.int p3), .val (.int p4), .val (.int p5)] []))
      refine OGo.st (fun _ k => XS.iconst X0.here hx rfl (hb hby d3_14) k) ?_
      show OGo p e below s _ _ _ (s₁.setTop (mkF m 15 #[.val (.ref o0), .val (.int (0 : Int32)), .val (.int p2), .val (.int p3), .val (.int p4), .val (.int p5)] [(.int (0 : Int32))]))
      exact oretN X0 hx Bd.notSynchronized (t := .boolean) Bd.returns (by simp) (hb hby d3_15) (z' := (0 : Int32)) (by decide) e0 ⟨(congrArg (fun z => some (Value.int z)) (show (0 : Int32) = f3L0 p2 p3 p4 p5 x0 from Eq.symm (by unfold f3L0; exact (if_neg hc3).trans (if_neg hc11)))), N0, rfl⟩ (by decide) (by decide)
theorem ef_3L1 (m : MethodId) (o0 : Addr) (p2 : Int32) (p3 : Int32) (p4 : Int32) (p5 : Int32) : entryFrame m #[(.ref o0), (.int (1 : Int32)), (.int p2), (.int p3), (.int p4), (.int p5)] 6 = mkF m 0 #[.val (.ref o0), .val (.int (1 : Int32)), .val (.int p2), .val (.int p3), .val (.int p4), .val (.int p5)] [] := by first | (simp [entryFrame, mkF, argsToLocals, Value.category]; done) | rfl
def f3L1 (p2 : Int32) (p3 : Int32) (p4 : Int32) (p5 : Int32) (x1 : Int32) : Int32 := (if (1 : Int32) < p4 then (0 : Int32) else (if (1 : Int32) < p5 then (if x1 = p2 then (1 : Int32) else (if x1 = p3 then (1 : Int32) else (0 : Int32))) else (0 : Int32)))
def Q3L1 (Z : State) (o0 : Addr) (p2 : Int32) (p3 : Int32) (p4 : Int32) (p5 : Int32) (k_o0 : ClassId) (x0 : Int32) (x1 : Int32) (x2 : Int32) (x3 : Int32) (x4 : Int32) (h0 : Heap) (n0 : Nat) (v : Option Value) (h : Heap) (L : List Loc) : Prop := v = some (.int (f3L1 p2 p3 p4 p5 x1)) ∧ Fr n0 L ∧ h = h0
set_option maxRecDepth 65536 in
set_option maxHeartbeats 40000000 in
theorem rm3L1 (l : Launch) (Z : State) (a0 : Array Value) (hw : ∀ d ∈ tables_1, d.before a0 Z = true) (ws : List Jvm.Cond) (o0 : Addr) (p2 : Int32) (p3 : Int32) (p4 : Int32) (p5 : Int32) (k_o0 : ClassId) (x0 : Int32) (x1 : Int32) (x2 : Int32) (x3 : Int32) (x4 : Int32) (h0 : Heap) (n0 : Nat) (Z0 : n0 ≤ h0.size) (V_o0 : Arv Z h0 o0 k_o0 .byte (5 : Int32) [(.int x0), (.int x1), (.int x2), (.int x3), (.int x4)] (.int (0 : Int32))) :
    MetFree l (⟨"com/example/assaywire/assaywire/protocol/BytesIndexOfEitherPinLaw", "hit", "([BIBBII)Z"⟩ : MethodName) (head1 (Jvm.Cond.code (⟨"com/example/assaywire/assaywire/protocol/BytesIndexOfEitherPinLaw", "hit", "([BIBBII)Z"⟩ : MethodName) method_4_code 6 (some .boolean) :: ws) ({ frames := 0, cells := 0, slots := 0, locals := 0 } : Room)) (fun a U => a = #[(.ref o0), (.int (1 : Int32)), (.int p2), (.int p3), (.int p4), (.int p5)] ∧ Z.Warmed39 U.vm ∧ U.heap = h0) (fun _ _ _ _ _ => True) (fun _ U o U' => ∃ v L, o = .returned v ∧ Q3L1 Z o0 p2 p3 p4 p5 k_o0 x0 x1 x2 x3 x4 h0 n0 v U'.heap L ∧ FrameEnd U o U' L ({ frames := 0, cells := 0, slots := 0, locals := 0 } : Room).cells ({ frames := 0, cells := 0, slots := 0, locals := 0 } : Room).slots) := by
  refine MetFree.of_bodySF (plainFor_of_name pn_3) hisR ?_
  intro p e s m args below meth c s₁ Bd hml0 hP hK
  obtain ⟨rfl, hZ, hh⟩ := hP
  have hx := Bd.exec
  have hby := Bd.bytes
  have hml : c.maxLocals = 6 := hml0
  have hown : s.vm.findClass "com/example/assaywire/assaywire/protocol/BytesIndexOfEitherPinLaw" = some m.cls := findClass_of_methodNamed Bd.named
  have hnm := (name_of_methodNamed Bd.named Bd.method).1
  have X0 : Stand p l e ({ frames := 0, cells := 0, slots := 0, locals := 0 } : Room) s m #[(.ref o0), (.int (1 : Int32)), (.int p2), (.int p3), (.int p4), (.int p5)] below meth c s₁ [] 0 0 := Stand.of_body Bd
  have e0 : s₁.heap = h0 := by rw [← hh, Bd.state]; rfl
  have N0 := Fr.nil n0
  show OGo p e below s (Q3L1 Z o0 p2 p3 p4 p5 k_o0 x0 x1 x2 x3 x4 h0 n0) ({ frames := 0, cells := 0, slots := 0, locals := 0 } : Room).cells ({ frames := 0, cells := 0, slots := 0, locals := 0 } : Room).slots _
  refine OGo.st (fun _ k => castTop (ef_3L1 m o0 p2 p3 p4 p5) k) ?_
  show OGo p e below s _ _ _ (s₁.setTop (mkF m 0 #[.val (.ref o0), .val (.int (1 : Int32)), .val (.int p2), .val (.int p3), .val (.int p4), .val (.int p5)] []))
  refine OGo.st (fun _ k => XS.iloadN X0.here hx rfl (hb hby d3_0) rfl k) ?_
  show OGo p e below s _ _ _ (s₁.setTop (mkF m 1 #[.val (.ref o0), .val (.int (1 : Int32)), .val (.int p2), .val (.int p3), .val (.int p4), .val (.int p5)] [(.int (1 : Int32))]))
  refine OGo.st (fun _ k => XS.iload X0.here hx rfl (hb hby d3_1) rfl k) ?_
  show OGo p e below s _ _ _ (s₁.setTop (mkF m 3 #[.val (.ref o0), .val (.int (1 : Int32)), .val (.int p2), .val (.int p3), .val (.int p4), .val (.int p5)] [(.int p4), (.int (1 : Int32))]))
  by_cases hc3 : (1 : Int32) < p4
  · refine OGo.st (fun _ k => XS.icmpNo X0.here hx rfl (hb hby d3_3) rfl (tlt hc3).2.1 k) ?_
    show OGo p e below s _ _ _ (s₁.setTop (mkF m 6 #[.val (.ref o0), .val (.int (1 : Int32)), .val (.int p2), .val (.int p3), .val (.int p4), .val (.int p5)] []))
    refine OGo.st (fun _ k => XS.iconst X0.here hx rfl (hb hby d3_6) k) ?_
    show OGo p e below s _ _ _ (s₁.setTop (mkF m 7 #[.val (.ref o0), .val (.int (1 : Int32)), .val (.int p2), .val (.int p3), .val (.int p4), .val (.int p5)] [(.int (0 : Int32))]))
    exact oretN X0 hx Bd.notSynchronized (t := .boolean) Bd.returns (by simp) (hb hby d3_7) (z' := (0 : Int32)) (by decide) e0 ⟨(congrArg (fun z => some (Value.int z)) (show (0 : Int32) = f3L1 p2 p3 p4 p5 x1 from Eq.symm (by unfold f3L1; exact if_pos hc3))), N0, rfl⟩ (by decide) (by decide)
  · refine OGo.st (fun _ k => XS.icmpYes X0.here hx rfl (pc0 := 3) (pc' := 8) rfl (hb hby d3_3) rfl (flt hc3).2.1 (by decide) (by decide) k) ?_
    show OGo p e below s _ _ _ (s₁.setTop (mkF m 8 #[.val (.ref o0), .val (.int (1 : Int32)), .val (.int p2), .val (.int p3), .val (.int p4), .val (.int p5)] []))
    refine OGo.st (fun _ k => XS.iloadN X0.here hx rfl (hb hby d3_8) rfl k) ?_
    show OGo p e below s _ _ _ (s₁.setTop (mkF m 9 #[.val (.ref o0), .val (.int (1 : Int32)), .val (.int p2), .val (.int p3), .val (.int p4), .val (.int p5)] [(.int (1 : Int32))]))
    refine OGo.st (fun _ k => XS.iload X0.here hx rfl (hb hby d3_9) rfl k) ?_
    show OGo p e below s _ _ _ (s₁.setTop (mkF m 11 #[.val (.ref o0), .val (.int (1 : Int32)), .val (.int p2), .val (.int p3), .val (.int p4), .val (.int p5)] [(.int p5), (.int (1 : Int32))]))
    by_cases hc11 : (1 : Int32) < p5
    · refine OGo.st (fun _ k => XS.icmpYes X0.here hx rfl (pc0 := 11) (pc' := 16) rfl (hb hby d3_11) rfl (tlt hc11).1 (by decide) (by decide) k) ?_
      show OGo p e below s _ _ _ (s₁.setTop (mkF m 16 #[.val (.ref o0), .val (.int (1 : Int32)), .val (.int p2), .val (.int p3), .val (.int p4), .val (.int p5)] []))
      refine OGo.st (fun _ k => XS.aloadN X0.here hx rfl (hb hby d3_16) rfl rfl k) ?_
      show OGo p e below s _ _ _ (s₁.setTop (mkF m 17 #[.val (.ref o0), .val (.int (1 : Int32)), .val (.int p2), .val (.int p3), .val (.int p4), .val (.int p5)] [(.ref o0)]))
      refine OGo.st (fun _ k => XS.iloadN X0.here hx rfl (hb hby d3_17) rfl k) ?_
      show OGo p e below s _ _ _ (s₁.setTop (mkF m 18 #[.val (.ref o0), .val (.int (1 : Int32)), .val (.int p2), .val (.int p3), .val (.int p4), .val (.int p5)] [(.int (1 : Int32)), (.ref o0)]))
      obtain ⟨cl1, Ar1, q1, Sz1, Nn1, Hs1, Gs1⟩ := id V_o0
      have hin1 : ¬ ((1 : Int32) < 0 ∨ cl1.slots.size ≤ ((1 : Int32)).toNatClampNeg) := inb_of Sz1 ⟨by decide, by decide⟩
      have hat1 : cl1.slots[((1 : Int32)).toNatClampNeg]? = some (.int x1) := Hs1.at hin1 rfl
      refine OGo.st (fun _ k => X0.baloadBytes hx (j := (1 : Int32)) (v := (.int x1)) (by rw [e0]; exact Ar1.1) (State.isArrayOf_alike hZ.alike Ar1.2.1) Ar1.2.2 hin1 hat1 (g := (mkF m 18 #[.val (.ref o0), .val (.int (1 : Int32)), .val (.int p2), .val (.int p3), .val (.int p4), .val (.int p5)] [(.int (1 : Int32)), (.ref o0)])) rfl rfl (hb hby d3_18) _ k) ?_
      show OGo p e below s _ _ _ (s₁.setTop (mkF m 19 #[.val (.ref o0), .val (.int (1 : Int32)), .val (.int p2), .val (.int p3), .val (.int p4), .val (.int p5)] [(.int x1)]))
      refine OGo.st (fun _ k => XS.iloadN X0.here hx rfl (hb hby d3_19) rfl k) ?_
      show OGo p e below s _ _ _ (s₁.setTop (mkF m 20 #[.val (.ref o0), .val (.int (1 : Int32)), .val (.int p2), .val (.int p3), .val (.int p4), .val (.int p5)] [(.int p2), (.int x1)]))
      by_cases hc20 : x1 = p2
      · refine OGo.st (fun _ k => XS.icmpYes X0.here hx rfl (pc0 := 20) (pc' := 30) rfl (hb hby d3_20) rfl (teq hc20).1 (by decide) (by decide) k) ?_
        show OGo p e below s _ _ _ (s₁.setTop (mkF m 30 #[.val (.ref o0), .val (.int (1 : Int32)), .val (.int p2), .val (.int p3), .val (.int p4), .val (.int p5)] []))
        refine OGo.st (fun _ k => XS.iconst X0.here hx rfl (hb hby d3_30) k) ?_
        show OGo p e below s _ _ _ (s₁.setTop (mkF m 31 #[.val (.ref o0), .val (.int (1 : Int32)), .val (.int p2), .val (.int p3), .val (.int p4), .val (.int p5)] [(.int (1 : Int32))]))
        refine OGo.st (fun _ k => XS.goto X0.here hx rfl (pc0 := 31) (pc' := 35) rfl (hb hby d3_31) (by decide) (by decide) k) ?_
        show OGo p e below s _ _ _ (s₁.setTop (mkF m 35 #[.val (.ref o0), .val (.int (1 : Int32)), .val (.int p2), .val (.int p3), .val (.int p4), .val (.int p5)] [(.int (1 : Int32))]))
        exact oretN X0 hx Bd.notSynchronized (t := .boolean) Bd.returns (by simp) (hb hby d3_35) (z' := (1 : Int32)) (by decide) e0 ⟨(congrArg (fun z => some (Value.int z)) (show (1 : Int32) = f3L1 p2 p3 p4 p5 x1 from Eq.symm (by unfold f3L1; exact (if_neg hc3).trans ((if_pos hc11).trans (if_pos hc20))))), N0, rfl⟩ (by decide) (by decide)
      · refine OGo.st (fun _ k => XS.icmpNo X0.here hx rfl (hb hby d3_20) rfl (feq hc20).1 k) ?_
        show OGo p e below s _ _ _ (s₁.setTop (mkF m 23 #[.val (.ref o0), .val (.int (1 : Int32)), .val (.int p2), .val (.int p3), .val (.int p4), .val (.int p5)] []))
        refine OGo.st (fun _ k => XS.aloadN X0.here hx rfl (hb hby d3_23) rfl rfl k) ?_
        show OGo p e below s _ _ _ (s₁.setTop (mkF m 24 #[.val (.ref o0), .val (.int (1 : Int32)), .val (.int p2), .val (.int p3), .val (.int p4), .val (.int p5)] [(.ref o0)]))
        refine OGo.st (fun _ k => XS.iloadN X0.here hx rfl (hb hby d3_24) rfl k) ?_
        show OGo p e below s _ _ _ (s₁.setTop (mkF m 25 #[.val (.ref o0), .val (.int (1 : Int32)), .val (.int p2), .val (.int p3), .val (.int p4), .val (.int p5)] [(.int (1 : Int32)), (.ref o0)]))
        obtain ⟨cl2, Ar2, q2, Sz2, Nn2, Hs2, Gs2⟩ := id V_o0
        have hin2 : ¬ ((1 : Int32) < 0 ∨ cl2.slots.size ≤ ((1 : Int32)).toNatClampNeg) := inb_of Sz2 ⟨by decide, by decide⟩
        have hat2 : cl2.slots[((1 : Int32)).toNatClampNeg]? = some (.int x1) := Hs2.at hin2 rfl
        refine OGo.st (fun _ k => X0.baloadBytes hx (j := (1 : Int32)) (v := (.int x1)) (by rw [e0]; exact Ar2.1) (State.isArrayOf_alike hZ.alike Ar2.2.1) Ar2.2.2 hin2 hat2 (g := (mkF m 25 #[.val (.ref o0), .val (.int (1 : Int32)), .val (.int p2), .val (.int p3), .val (.int p4), .val (.int p5)] [(.int (1 : Int32)), (.ref o0)])) rfl rfl (hb hby d3_25) _ k) ?_
        show OGo p e below s _ _ _ (s₁.setTop (mkF m 26 #[.val (.ref o0), .val (.int (1 : Int32)), .val (.int p2), .val (.int p3), .val (.int p4), .val (.int p5)] [(.int x1)]))
        refine OGo.st (fun _ k => XS.iloadN X0.here hx rfl (hb hby d3_26) rfl k) ?_
        show OGo p e below s _ _ _ (s₁.setTop (mkF m 27 #[.val (.ref o0), .val (.int (1 : Int32)), .val (.int p2), .val (.int p3), .val (.int p4), .val (.int p5)] [(.int p3), (.int x1)]))
        by_cases hc27 : x1 = p3
        · refine OGo.st (fun _ k => XS.icmpNo X0.here hx rfl (hb hby d3_27) rfl (teq hc27).2 k) ?_
          show OGo p e below s _ _ _ (s₁.setTop (mkF m 30 #[.val (.ref o0), .val (.int (1 : Int32)), .val (.int p2), .val (.int p3), .val (.int p4), .val (.int p5)] []))
          refine OGo.st (fun _ k => XS.iconst X0.here hx rfl (hb hby d3_30) k) ?_
          show OGo p e below s _ _ _ (s₁.setTop (mkF m 31 #[.val (.ref o0), .val (.int (1 : Int32)), .val (.int p2), .val (.int p3), .val (.int p4), .val (.int p5)] [(.int (1 : Int32))]))
          refine OGo.st (fun _ k => XS.goto X0.here hx rfl (pc0 := 31) (pc' := 35) rfl (hb hby d3_31) (by decide) (by decide) k) ?_
          show OGo p e below s _ _ _ (s₁.setTop (mkF m 35 #[.val (.ref o0), .val (.int (1 : Int32)), .val (.int p2), .val (.int p3), .val (.int p4), .val (.int p5)] [(.int (1 : Int32))]))
          exact oretN X0 hx Bd.notSynchronized (t := .boolean) Bd.returns (by simp) (hb hby d3_35) (z' := (1 : Int32)) (by decide) e0 ⟨(congrArg (fun z => some (Value.int z)) (show (1 : Int32) = f3L1 p2 p3 p4 p5 x1 from Eq.symm (by unfold f3L1; exact (if_neg hc3).trans ((if_pos hc11).trans ((if_neg hc20).trans (if_pos hc27)))))), N0, rfl⟩ (by decide) (by decide)
        · refine OGo.st (fun _ k => XS.icmpYes X0.here hx rfl (pc0 := 27) (pc' := 34) rfl (hb hby d3_27) rfl (feq hc27).2 (by decide) (by decide) k) ?_
          show OGo p e below s _ _ _ (s₁.setTop (mkF m 34 #[.val (.ref o0), .val (.int (1 : Int32)), .val (.int p2), .val (.int p3), .val (.int p4), .val (.int p5)] []))
          refine OGo.st (fun _ k => XS.iconst X0.here hx rfl (hb hby d3_34) k) ?_
          show OGo p e below s _ _ _ (s₁.setTop (mkF m 35 #[.val (.ref o0), .val (.int (1 : Int32)), .val (.int p2), .val (.int p3), .val (.int p4), .val (.int p5)] [(.int (0 : Int32))]))
          exact oretN X0 hx Bd.notSynchronized (t := .boolean) Bd.returns (by simp) (hb hby d3_35) (z' := (0 : Int32)) (by decide) e0 ⟨(congrArg (fun z => some (Value.int z)) (show (0 : Int32) = f3L1 p2 p3 p4 p5 x1 from Eq.symm (by unfold f3L1; exact (if_neg hc3).trans ((if_pos hc11).trans ((if_neg hc20).trans (if_neg hc27)))))), N0, rfl⟩ (by decide) (by decide)
    · refine OGo.st (fun _ k => XS.icmpNo X0.here hx rfl (hb hby d3_11) rfl (flt hc11).1 k) ?_
      show OGo p e below s _ _ _ (s₁.setTop (mkF m 14 #[.val (.ref o0), .val (.int (1 : Int32)), .val (.int p2), .val (.int p3), .val (.int p4), .val (.int p5)] []))
      refine OGo.st (fun _ k => XS.iconst X0.here hx rfl (hb hby d3_14) k) ?_
      show OGo p e below s _ _ _ (s₁.setTop (mkF m 15 #[.val (.ref o0), .val (.int (1 : Int32)), .val (.int p2), .val (.int p3), .val (.int p4), .val (.int p5)] [(.int (0 : Int32))]))
      exact oretN X0 hx Bd.notSynchronized (t := .boolean) Bd.returns (by simp) (hb hby d3_15) (z' := (0 : Int32)) (by decide) e0 ⟨(congrArg (fun z => some (Value.int z)) (show (0 : Int32) = f3L1 p2 p3 p4 p5 x1 from Eq.symm (by unfold f3L1; exact (if_neg hc3).trans (if_neg hc11)))), N0, rfl⟩ (by decide) (by decide)
theorem ef_3L2 (m : MethodId) (o0 : Addr) (p2 : Int32) (p3 : Int32) (p4 : Int32) (p5 : Int32) : entryFrame m #[(.ref o0), (.int (2 : Int32)), (.int p2), (.int p3), (.int p4), (.int p5)] 6 = mkF m 0 #[.val (.ref o0), .val (.int (2 : Int32)), .val (.int p2), .val (.int p3), .val (.int p4), .val (.int p5)] [] := by first | (simp [entryFrame, mkF, argsToLocals, Value.category]; done) | rfl
def f3L2 (p2 : Int32) (p3 : Int32) (p4 : Int32) (p5 : Int32) (x2 : Int32) : Int32 := (if (2 : Int32) < p4 then (0 : Int32) else (if (2 : Int32) < p5 then (if x2 = p2 then (1 : Int32) else (if x2 = p3 then (1 : Int32) else (0 : Int32))) else (0 : Int32)))
def Q3L2 (Z : State) (o0 : Addr) (p2 : Int32) (p3 : Int32) (p4 : Int32) (p5 : Int32) (k_o0 : ClassId) (x0 : Int32) (x1 : Int32) (x2 : Int32) (x3 : Int32) (x4 : Int32) (h0 : Heap) (n0 : Nat) (v : Option Value) (h : Heap) (L : List Loc) : Prop := v = some (.int (f3L2 p2 p3 p4 p5 x2)) ∧ Fr n0 L ∧ h = h0
set_option maxRecDepth 65536 in
set_option maxHeartbeats 40000000 in
theorem rm3L2 (l : Launch) (Z : State) (a0 : Array Value) (hw : ∀ d ∈ tables_1, d.before a0 Z = true) (ws : List Jvm.Cond) (o0 : Addr) (p2 : Int32) (p3 : Int32) (p4 : Int32) (p5 : Int32) (k_o0 : ClassId) (x0 : Int32) (x1 : Int32) (x2 : Int32) (x3 : Int32) (x4 : Int32) (h0 : Heap) (n0 : Nat) (Z0 : n0 ≤ h0.size) (V_o0 : Arv Z h0 o0 k_o0 .byte (5 : Int32) [(.int x0), (.int x1), (.int x2), (.int x3), (.int x4)] (.int (0 : Int32))) :
    MetFree l (⟨"com/example/assaywire/assaywire/protocol/BytesIndexOfEitherPinLaw", "hit", "([BIBBII)Z"⟩ : MethodName) (head1 (Jvm.Cond.code (⟨"com/example/assaywire/assaywire/protocol/BytesIndexOfEitherPinLaw", "hit", "([BIBBII)Z"⟩ : MethodName) method_4_code 6 (some .boolean) :: ws) ({ frames := 0, cells := 0, slots := 0, locals := 0 } : Room)) (fun a U => a = #[(.ref o0), (.int (2 : Int32)), (.int p2), (.int p3), (.int p4), (.int p5)] ∧ Z.Warmed39 U.vm ∧ U.heap = h0) (fun _ _ _ _ _ => True) (fun _ U o U' => ∃ v L, o = .returned v ∧ Q3L2 Z o0 p2 p3 p4 p5 k_o0 x0 x1 x2 x3 x4 h0 n0 v U'.heap L ∧ FrameEnd U o U' L ({ frames := 0, cells := 0, slots := 0, locals := 0 } : Room).cells ({ frames := 0, cells := 0, slots := 0, locals := 0 } : Room).slots) := by
  refine MetFree.of_bodySF (plainFor_of_name pn_3) hisR ?_
  intro p e s m args below meth c s₁ Bd hml0 hP hK
  obtain ⟨rfl, hZ, hh⟩ := hP
  have hx := Bd.exec
  have hby := Bd.bytes
  have hml : c.maxLocals = 6 := hml0
  have hown : s.vm.findClass "com/example/assaywire/assaywire/protocol/BytesIndexOfEitherPinLaw" = some m.cls := findClass_of_methodNamed Bd.named
  have hnm := (name_of_methodNamed Bd.named Bd.method).1
  have X0 : Stand p l e ({ frames := 0, cells := 0, slots := 0, locals := 0 } : Room) s m #[(.ref o0), (.int (2 : Int32)), (.int p2), (.int p3), (.int p4), (.int p5)] below meth c s₁ [] 0 0 := Stand.of_body Bd
  have e0 : s₁.heap = h0 := by rw [← hh, Bd.state]; rfl
  have N0 := Fr.nil n0
  show OGo p e below s (Q3L2 Z o0 p2 p3 p4 p5 k_o0 x0 x1 x2 x3 x4 h0 n0) ({ frames := 0, cells := 0, slots := 0, locals := 0 } : Room).cells ({ frames := 0, cells := 0, slots := 0, locals := 0 } : Room).slots _
  refine OGo.st (fun _ k => castTop (ef_3L2 m o0 p2 p3 p4 p5) k) ?_
  show OGo p e below s _ _ _ (s₁.setTop (mkF m 0 #[.val (.ref o0), .val (.int (2 : Int32)), .val (.int p2), .val (.int p3), .val (.int p4), .val (.int p5)] []))
  refine OGo.st (fun _ k => XS.iloadN X0.here hx rfl (hb hby d3_0) rfl k) ?_
  show OGo p e below s _ _ _ (s₁.setTop (mkF m 1 #[.val (.ref o0), .val (.int (2 : Int32)), .val (.int p2), .val (.int p3), .val (.int p4), .val (.int p5)] [(.int (2 : Int32))]))
  refine OGo.st (fun _ k => XS.iload X0.here hx rfl (hb hby d3_1) rfl k) ?_
  show OGo p e below s _ _ _ (s₁.setTop (mkF m 3 #[.val (.ref o0), .val (.int (2 : Int32)), .val (.int p2), .val (.int p3), .val (.int p4), .val (.int p5)] [(.int p4), (.int (2 : Int32))]))
  by_cases hc3 : (2 : Int32) < p4
  · refine OGo.st (fun _ k => XS.icmpNo X0.here hx rfl (hb hby d3_3) rfl (tlt hc3).2.1 k) ?_
    show OGo p e below s _ _ _ (s₁.setTop (mkF m 6 #[.val (.ref o0), .val (.int (2 : Int32)), .val (.int p2), .val (.int p3), .val (.int p4), .val (.int p5)] []))
    refine OGo.st (fun _ k => XS.iconst X0.here hx rfl (hb hby d3_6) k) ?_
    show OGo p e below s _ _ _ (s₁.setTop (mkF m 7 #[.val (.ref o0), .val (.int (2 : Int32)), .val (.int p2), .val (.int p3), .val (.int p4), .val (.int p5)] [(.int (0 : Int32))]))
    exact oretN X0 hx Bd.notSynchronized (t := .boolean) Bd.returns (by simp) (hb hby d3_7) (z' := (0 : Int32)) (by decide) e0 ⟨(congrArg (fun z => some (Value.int z)) (show (0 : Int32) = f3L2 p2 p3 p4 p5 x2 from Eq.symm (by unfold f3L2; exact if_pos hc3))), N0, rfl⟩ (by decide) (by decide)
  · refine OGo.st (fun _ k => XS.icmpYes X0.here hx rfl (pc0 := 3) (pc' := 8) rfl (hb hby d3_3) rfl (flt hc3).2.1 (by decide) (by decide) k) ?_
    show OGo p e below s _ _ _ (s₁.setTop (mkF m 8 #[.val (.ref o0), .val (.int (2 : Int32)), .val (.int p2), .val (.int p3), .val (.int p4), .val (.int p5)] []))
    refine OGo.st (fun _ k => XS.iloadN X0.here hx rfl (hb hby d3_8) rfl k) ?_
    show OGo p e below s _ _ _ (s₁.setTop (mkF m 9 #[.val (.ref o0), .val (.int (2 : Int32)), .val (.int p2), .val (.int p3), .val (.int p4), .val (.int p5)] [(.int (2 : Int32))]))
    refine OGo.st (fun _ k => XS.iload X0.here hx rfl (hb hby d3_9) rfl k) ?_
    show OGo p e below s _ _ _ (s₁.setTop (mkF m 11 #[.val (.ref o0), .val (.int (2 : Int32)), .val (.int p2), .val (.int p3), .val (.int p4), .val (.int p5)] [(.int p5), (.int (2 : Int32))]))
    by_cases hc11 : (2 : Int32) < p5
    · refine OGo.st (fun _ k => XS.icmpYes X0.here hx rfl (pc0 := 11) (pc' := 16) rfl (hb hby d3_11) rfl (tlt hc11).1 (by decide) (by decide) k) ?_
      show OGo p e below s _ _ _ (s₁.setTop (mkF m 16 #[.val (.ref o0), .val (.int (2 : Int32)), .val (.int p2), .val (.int p3), .val (.int p4), .val (.int p5)] []))
      refine OGo.st (fun _ k => XS.aloadN X0.here hx rfl (hb hby d3_16) rfl rfl k) ?_
      show OGo p e below s _ _ _ (s₁.setTop (mkF m 17 #[.val (.ref o0), .val (.int (2 : Int32)), .val (.int p2), .val (.int p3), .val (.int p4), .val (.int p5)] [(.ref o0)]))
      refine OGo.st (fun _ k => XS.iloadN X0.here hx rfl (hb hby d3_17) rfl k) ?_
      show OGo p e below s _ _ _ (s₁.setTop (mkF m 18 #[.val (.ref o0), .val (.int (2 : Int32)), .val (.int p2), .val (.int p3), .val (.int p4), .val (.int p5)] [(.int (2 : Int32)), (.ref o0)]))
      obtain ⟨cl1, Ar1, q1, Sz1, Nn1, Hs1, Gs1⟩ := id V_o0
      have hin1 : ¬ ((2 : Int32) < 0 ∨ cl1.slots.size ≤ ((2 : Int32)).toNatClampNeg) := inb_of Sz1 ⟨by decide, by decide⟩
      have hat1 : cl1.slots[((2 : Int32)).toNatClampNeg]? = some (.int x2) := Hs1.at hin1 rfl
      refine OGo.st (fun _ k => X0.baloadBytes hx (j := (2 : Int32)) (v := (.int x2)) (by rw [e0]; exact Ar1.1) (State.isArrayOf_alike hZ.alike Ar1.2.1) Ar1.2.2 hin1 hat1 (g := (mkF m 18 #[.val (.ref o0), .val (.int (2 : Int32)), .val (.int p2), .val (.int p3), .val (.int p4), .val (.int p5)] [(.int (2 : Int32)), (.ref o0)])) rfl rfl (hb hby d3_18) _ k) ?_
      show OGo p e below s _ _ _ (s₁.setTop (mkF m 19 #[.val (.ref o0), .val (.int (2 : Int32)), .val (.int p2), .val (.int p3), .val (.int p4), .val (.int p5)] [(.int x2)]))
      refine OGo.st (fun _ k => XS.iloadN X0.here hx rfl (hb hby d3_19) rfl k) ?_
      show OGo p e below s _ _ _ (s₁.setTop (mkF m 20 #[.val (.ref o0), .val (.int (2 : Int32)), .val (.int p2), .val (.int p3), .val (.int p4), .val (.int p5)] [(.int p2), (.int x2)]))
      by_cases hc20 : x2 = p2
      · refine OGo.st (fun _ k => XS.icmpYes X0.here hx rfl (pc0 := 20) (pc' := 30) rfl (hb hby d3_20) rfl (teq hc20).1 (by decide) (by decide) k) ?_
        show OGo p e below s _ _ _ (s₁.setTop (mkF m 30 #[.val (.ref o0), .val (.int (2 : Int32)), .val (.int p2), .val (.int p3), .val (.int p4), .val (.int p5)] []))
        refine OGo.st (fun _ k => XS.iconst X0.here hx rfl (hb hby d3_30) k) ?_
        show OGo p e below s _ _ _ (s₁.setTop (mkF m 31 #[.val (.ref o0), .val (.int (2 : Int32)), .val (.int p2), .val (.int p3), .val (.int p4), .val (.int p5)] [(.int (1 : Int32))]))
        refine OGo.st (fun _ k => XS.goto X0.here hx rfl (pc0 := 31) (pc' := 35) rfl (hb hby d3_31) (by decide) (by decide) k) ?_
        show OGo p e below s _ _ _ (s₁.setTop (mkF m 35 #[.val (.ref o0), .val (.int (2 : Int32)), .val (.int p2), .val (.int p3), .val (.int p4), .val (.int p5)] [(.int (1 : Int32))]))
        exact oretN X0 hx Bd.notSynchronized (t := .boolean) Bd.returns (by simp) (hb hby d3_35) (z' := (1 : Int32)) (by decide) e0 ⟨(congrArg (fun z => some (Value.int z)) (show (1 : Int32) = f3L2 p2 p3 p4 p5 x2 from Eq.symm (by unfold f3L2; exact (if_neg hc3).trans ((if_pos hc11).trans (if_pos hc20))))), N0, rfl⟩ (by decide) (by decide)
      · refine OGo.st (fun _ k => XS.icmpNo X0.here hx rfl (hb hby d3_20) rfl (feq hc20).1 k) ?_
        show OGo p e below s _ _ _ (s₁.setTop (mkF m 23 #[.val (.ref o0), .val (.int (2 : Int32)), .val (.int p2), .val (.int p3), .val (.int p4), .val (.int p5)] []))
        refine OGo.st (fun _ k => XS.aloadN X0.here hx rfl (hb hby d3_23) rfl rfl k) ?_
        show OGo p e below s _ _ _ (s₁.setTop (mkF m 24 #[.val (.ref o0), .val (.int (2 : Int32)), .val (.int p2), .val (.int p3), .val (.int p4), .val (.int p5)] [(.ref o0)]))
        refine OGo.st (fun _ k => XS.iloadN X0.here hx rfl (hb hby d3_24) rfl k) ?_
        show OGo p e below s _ _ _ (s₁.setTop (mkF m 25 #[.val (.ref o0), .val (.int (2 : Int32)), .val (.int p2), .val (.int p3), .val (.int p4), .val (.int p5)] [(.int (2 : Int32)), (.ref o0)]))
        obtain ⟨cl2, Ar2, q2, Sz2, Nn2, Hs2, Gs2⟩ := id V_o0
        have hin2 : ¬ ((2 : Int32) < 0 ∨ cl2.slots.size ≤ ((2 : Int32)).toNatClampNeg) := inb_of Sz2 ⟨by decide, by decide⟩
        have hat2 : cl2.slots[((2 : Int32)).toNatClampNeg]? = some (.int x2) := Hs2.at hin2 rfl
        refine OGo.st (fun _ k => X0.baloadBytes hx (j := (2 : Int32)) (v := (.int x2)) (by rw [e0]; exact Ar2.1) (State.isArrayOf_alike hZ.alike Ar2.2.1) Ar2.2.2 hin2 hat2 (g := (mkF m 25 #[.val (.ref o0), .val (.int (2 : Int32)), .val (.int p2), .val (.int p3), .val (.int p4), .val (.int p5)] [(.int (2 : Int32)), (.ref o0)])) rfl rfl (hb hby d3_25) _ k) ?_
        show OGo p e below s _ _ _ (s₁.setTop (mkF m 26 #[.val (.ref o0), .val (.int (2 : Int32)), .val (.int p2), .val (.int p3), .val (.int p4), .val (.int p5)] [(.int x2)]))
        refine OGo.st (fun _ k => XS.iloadN X0.here hx rfl (hb hby d3_26) rfl k) ?_
        show OGo p e below s _ _ _ (s₁.setTop (mkF m 27 #[.val (.ref o0), .val (.int (2 : Int32)), .val (.int p2), .val (.int p3), .val (.int p4), .val (.int p5)] [(.int p3), (.int x2)]))
        by_cases hc27 : x2 = p3
        · refine OGo.st (fun _ k => XS.icmpNo X0.here hx rfl (hb hby d3_27) rfl (teq hc27).2 k) ?_
          show OGo p e below s _ _ _ (s₁.setTop (mkF m 30 #[.val (.ref o0), .val (.int (2 : Int32)), .val (.int p2), .val (.int p3), .val (.int p4), .val (.int p5)] []))
          refine OGo.st (fun _ k => XS.iconst X0.here hx rfl (hb hby d3_30) k) ?_
          show OGo p e below s _ _ _ (s₁.setTop (mkF m 31 #[.val (.ref o0), .val (.int (2 : Int32)), .val (.int p2), .val (.int p3), .val (.int p4), .val (.int p5)] [(.int (1 : Int32))]))
          refine OGo.st (fun _ k => XS.goto X0.here hx rfl (pc0 := 31) (pc' := 35) rfl (hb hby d3_31) (by decide) (by decide) k) ?_
          show OGo p e below s _ _ _ (s₁.setTop (mkF m 35 #[.val (.ref o0), .val (.int (2 : Int32)), .val (.int p2), .val (.int p3), .val (.int p4), .val (.int p5)] [(.int (1 : Int32))]))
          exact oretN X0 hx Bd.notSynchronized (t := .boolean) Bd.returns (by simp) (hb hby d3_35) (z' := (1 : Int32)) (by decide) e0 ⟨(congrArg (fun z => some (Value.int z)) (show (1 : Int32) = f3L2 p2 p3 p4 p5 x2 from Eq.symm (by unfold f3L2; exact (if_neg hc3).trans ((if_pos hc11).trans ((if_neg hc20).trans (if_pos hc27)))))), N0, rfl⟩ (by decide) (by decide)
        · refine OGo.st (fun _ k => XS.icmpYes X0.here hx rfl (pc0 := 27) (pc' := 34) rfl (hb hby d3_27) rfl (feq hc27).2 (by decide) (by decide) k) ?_
          show OGo p e below s _ _ _ (s₁.setTop (mkF m 34 #[.val (.ref o0), .val (.int (2 : Int32)), .val (.int p2), .val (.int p3), .val (.int p4), .val (.int p5)] []))
          refine OGo.st (fun _ k => XS.iconst X0.here hx rfl (hb hby d3_34) k) ?_
          show OGo p e below s _ _ _ (s₁.setTop (mkF m 35 #[.val (.ref o0), .val (.int (2 : Int32)), .val (.int p2), .val (.int p3), .val (.int p4), .val (.int p5)] [(.int (0 : Int32))]))
          exact oretN X0 hx Bd.notSynchronized (t := .boolean) Bd.returns (by simp) (hb hby d3_35) (z' := (0 : Int32)) (by decide) e0 ⟨(congrArg (fun z => some (Value.int z)) (show (0 : Int32) = f3L2 p2 p3 p4 p5 x2 from Eq.symm (by unfold f3L2; exact (if_neg hc3).trans ((if_pos hc11).trans ((if_neg hc20).trans (if_neg hc27)))))), N0, rfl⟩ (by decide) (by decide)
    · refine OGo.st (fun _ k => XS.icmpNo X0.here hx rfl (hb hby d3_11) rfl (flt hc11).1 k) ?_
      show OGo p e below s _ _ _ (s₁.setTop (mkF m 14 #[.val (.ref o0), .val (.int (2 : Int32)), .val (.int p2), .val (.int p3), .val (.int p4), .val (.int p5)] []))
      refine OGo.st (fun _ k => XS.iconst X0.here hx rfl (hb hby d3_14) k) ?_
      show OGo p e below s _ _ _ (s₁.setTop (mkF m 15 #[.val (.ref o0), .val (.int (2 : Int32)), .val (.int p2), .val (.int p3), .val (.int p4), .val (.int p5)] [(.int (0 : Int32))]))
      exact oretN X0 hx Bd.notSynchronized (t := .boolean) Bd.returns (by simp) (hb hby d3_15) (z' := (0 : Int32)) (by decide) e0 ⟨(congrArg (fun z => some (Value.int z)) (show (0 : Int32) = f3L2 p2 p3 p4 p5 x2 from Eq.symm (by unfold f3L2; exact (if_neg hc3).trans (if_neg hc11)))), N0, rfl⟩ (by decide) (by decide)
theorem ef_3L3 (m : MethodId) (o0 : Addr) (p2 : Int32) (p3 : Int32) (p4 : Int32) (p5 : Int32) : entryFrame m #[(.ref o0), (.int (3 : Int32)), (.int p2), (.int p3), (.int p4), (.int p5)] 6 = mkF m 0 #[.val (.ref o0), .val (.int (3 : Int32)), .val (.int p2), .val (.int p3), .val (.int p4), .val (.int p5)] [] := by first | (simp [entryFrame, mkF, argsToLocals, Value.category]; done) | rfl
def f3L3 (p2 : Int32) (p3 : Int32) (p4 : Int32) (p5 : Int32) (x3 : Int32) : Int32 := (if (3 : Int32) < p4 then (0 : Int32) else (if (3 : Int32) < p5 then (if x3 = p2 then (1 : Int32) else (if x3 = p3 then (1 : Int32) else (0 : Int32))) else (0 : Int32)))
def Q3L3 (Z : State) (o0 : Addr) (p2 : Int32) (p3 : Int32) (p4 : Int32) (p5 : Int32) (k_o0 : ClassId) (x0 : Int32) (x1 : Int32) (x2 : Int32) (x3 : Int32) (x4 : Int32) (h0 : Heap) (n0 : Nat) (v : Option Value) (h : Heap) (L : List Loc) : Prop := v = some (.int (f3L3 p2 p3 p4 p5 x3)) ∧ Fr n0 L ∧ h = h0
set_option maxRecDepth 65536 in
set_option maxHeartbeats 40000000 in
theorem rm3L3 (l : Launch) (Z : State) (a0 : Array Value) (hw : ∀ d ∈ tables_1, d.before a0 Z = true) (ws : List Jvm.Cond) (o0 : Addr) (p2 : Int32) (p3 : Int32) (p4 : Int32) (p5 : Int32) (k_o0 : ClassId) (x0 : Int32) (x1 : Int32) (x2 : Int32) (x3 : Int32) (x4 : Int32) (h0 : Heap) (n0 : Nat) (Z0 : n0 ≤ h0.size) (V_o0 : Arv Z h0 o0 k_o0 .byte (5 : Int32) [(.int x0), (.int x1), (.int x2), (.int x3), (.int x4)] (.int (0 : Int32))) :
    MetFree l (⟨"com/example/assaywire/assaywire/protocol/BytesIndexOfEitherPinLaw", "hit", "([BIBBII)Z"⟩ : MethodName) (head1 (Jvm.Cond.code (⟨"com/example/assaywire/assaywire/protocol/BytesIndexOfEitherPinLaw", "hit", "([BIBBII)Z"⟩ : MethodName) method_4_code 6 (some .boolean) :: ws) ({ frames := 0, cells := 0, slots := 0, locals := 0 } : Room)) (fun a U => a = #[(.ref o0), (.int (3 : Int32)), (.int p2), (.int p3), (.int p4), (.int p5)] ∧ Z.Warmed39 U.vm ∧ U.heap = h0) (fun _ _ _ _ _ => True) (fun _ U o U' => ∃ v L, o = .returned v ∧ Q3L3 Z o0 p2 p3 p4 p5 k_o0 x0 x1 x2 x3 x4 h0 n0 v U'.heap L ∧ FrameEnd U o U' L ({ frames := 0, cells := 0, slots := 0, locals := 0 } : Room).cells ({ frames := 0, cells := 0, slots := 0, locals := 0 } : Room).slots) := by
  refine MetFree.of_bodySF (plainFor_of_name pn_3) hisR ?_
  intro p e s m args below meth c s₁ Bd hml0 hP hK
  obtain ⟨rfl, hZ, hh⟩ := hP
  have hx := Bd.exec
  have hby := Bd.bytes
  have hml : c.maxLocals = 6 := hml0
  have hown : s.vm.findClass "com/example/assaywire/assaywire/protocol/BytesIndexOfEitherPinLaw" = some m.cls := findClass_of_methodNamed Bd.named
  have hnm := (name_of_methodNamed Bd.named Bd.method).1
  have X0 : Stand p l e ({ frames := 0, cells := 0, slots := 0, locals := 0 } : Room) s m #[(.ref o0), (.int (3 : Int32)), (.int p2), (.int p3), (.int p4), (.int p5)] below meth c s₁ [] 0 0 := Stand.of_body Bd
  have e0 : s₁.heap = h0 := by rw [← hh, Bd.state]; rfl
  have N0 := Fr.nil n0
  show OGo p e below s (Q3L3 Z o0 p2 p3 p4 p5 k_o0 x0 x1 x2 x3 x4 h0 n0) ({ frames := 0, cells := 0, slots := 0, locals := 0 } : Room).cells ({ frames := 0, cells := 0, slots := 0, locals := 0 } : Room).slots _
  refine OGo.st (fun _ k => castTop (ef_3L3 m o0 p2 p3 p4 p5) k) ?_
  show OGo p e below s _ _ _ (s₁.setTop (mkF m 0 #[.val (.ref o0), .val (.int (3 : Int32)), .val (.int p2), .val (.int p3), .val (.int p4), .val (.int p5)] []))
  refine OGo.st (fun _ k => XS.iloadN X0.here hx rfl (hb hby d3_0) rfl k) ?_
  show OGo p e below s _ _ _ (s₁.setTop (mkF m 1 #[.val (.ref o0), .val (.int (3 : Int32)), .val (.int p2), .val (.int p3), .val (.int p4), .val (.int p5)] [(.int (3 : Int32))]))
  refine OGo.st (fun _ k => XS.iload X0.here hx rfl (hb hby d3_1) rfl k) ?_
  show OGo p e below s _ _ _ (s₁.setTop (mkF m 3 #[.val (.ref o0), .val (.int (3 : Int32)), .val (.int p2), .val (.int p3), .val (.int p4), .val (.int p5)] [(.int p4), (.int (3 : Int32))]))
  by_cases hc3 : (3 : Int32) < p4
  · refine OGo.st (fun _ k => XS.icmpNo X0.here hx rfl (hb hby d3_3) rfl (tlt hc3).2.1 k) ?_
    show OGo p e below s _ _ _ (s₁.setTop (mkF m 6 #[.val (.ref o0), .val (.int (3 : Int32)), .val (.int p2), .val (.int p3), .val (.int p4), .val (.int p5)] []))
    refine OGo.st (fun _ k => XS.iconst X0.here hx rfl (hb hby d3_6) k) ?_
    show OGo p e below s _ _ _ (s₁.setTop (mkF m 7 #[.val (.ref o0), .val (.int (3 : Int32)), .val (.int p2), .val (.int p3), .val (.int p4), .val (.int p5)] [(.int (0 : Int32))]))
    exact oretN X0 hx Bd.notSynchronized (t := .boolean) Bd.returns (by simp) (hb hby d3_7) (z' := (0 : Int32)) (by decide) e0 ⟨(congrArg (fun z => some (Value.int z)) (show (0 : Int32) = f3L3 p2 p3 p4 p5 x3 from Eq.symm (by unfold f3L3; exact if_pos hc3))), N0, rfl⟩ (by decide) (by decide)
  · refine OGo.st (fun _ k => XS.icmpYes X0.here hx rfl (pc0 := 3) (pc' := 8) rfl (hb hby d3_3) rfl (flt hc3).2.1 (by decide) (by decide) k) ?_
    show OGo p e below s _ _ _ (s₁.setTop (mkF m 8 #[.val (.ref o0), .val (.int (3 : Int32)), .val (.int p2), .val (.int p3), .val (.int p4), .val (.int p5)] []))
    refine OGo.st (fun _ k => XS.iloadN X0.here hx rfl (hb hby d3_8) rfl k) ?_
    show OGo p e below s _ _ _ (s₁.setTop (mkF m 9 #[.val (.ref o0), .val (.int (3 : Int32)), .val (.int p2), .val (.int p3), .val (.int p4), .val (.int p5)] [(.int (3 : Int32))]))
    refine OGo.st (fun _ k => XS.iload X0.here hx rfl (hb hby d3_9) rfl k) ?_
    show OGo p e below s _ _ _ (s₁.setTop (mkF m 11 #[.val (.ref o0), .val (.int (3 : Int32)), .val (.int p2), .val (.int p3), .val (.int p4), .val (.int p5)] [(.int p5), (.int (3 : Int32))]))
    by_cases hc11 : (3 : Int32) < p5
    · refine OGo.st (fun _ k => XS.icmpYes X0.here hx rfl (pc0 := 11) (pc' := 16) rfl (hb hby d3_11) rfl (tlt hc11).1 (by decide) (by decide) k) ?_
      show OGo p e below s _ _ _ (s₁.setTop (mkF m 16 #[.val (.ref o0), .val (.int (3 : Int32)), .val (.int p2), .val (.int p3), .val (.int p4), .val (.int p5)] []))
      refine OGo.st (fun _ k => XS.aloadN X0.here hx rfl (hb hby d3_16) rfl rfl k) ?_
      show OGo p e below s _ _ _ (s₁.setTop (mkF m 17 #[.val (.ref o0), .val (.int (3 : Int32)), .val (.int p2), .val (.int p3), .val (.int p4), .val (.int p5)] [(.ref o0)]))
      refine OGo.st (fun _ k => XS.iloadN X0.here hx rfl (hb hby d3_17) rfl k) ?_
      show OGo p e below s _ _ _ (s₁.setTop (mkF m 18 #[.val (.ref o0), .val (.int (3 : Int32)), .val (.int p2), .val (.int p3), .val (.int p4), .val (.int p5)] [(.int (3 : Int32)), (.ref o0)]))
      obtain ⟨cl1, Ar1, q1, Sz1, Nn1, Hs1, Gs1⟩ := id V_o0
      have hin1 : ¬ ((3 : Int32) < 0 ∨ cl1.slots.size ≤ ((3 : Int32)).toNatClampNeg) := inb_of Sz1 ⟨by decide, by decide⟩
      have hat1 : cl1.slots[((3 : Int32)).toNatClampNeg]? = some (.int x3) := Hs1.at hin1 rfl
      refine OGo.st (fun _ k => X0.baloadBytes hx (j := (3 : Int32)) (v := (.int x3)) (by rw [e0]; exact Ar1.1) (State.isArrayOf_alike hZ.alike Ar1.2.1) Ar1.2.2 hin1 hat1 (g := (mkF m 18 #[.val (.ref o0), .val (.int (3 : Int32)), .val (.int p2), .val (.int p3), .val (.int p4), .val (.int p5)] [(.int (3 : Int32)), (.ref o0)])) rfl rfl (hb hby d3_18) _ k) ?_
      show OGo p e below s _ _ _ (s₁.setTop (mkF m 19 #[.val (.ref o0), .val (.int (3 : Int32)), .val (.int p2), .val (.int p3), .val (.int p4), .val (.int p5)] [(.int x3)]))
      refine OGo.st (fun _ k => XS.iloadN X0.here hx rfl (hb hby d3_19) rfl k) ?_
      show OGo p e below s _ _ _ (s₁.setTop (mkF m 20 #[.val (.ref o0), .val (.int (3 : Int32)), .val (.int p2), .val (.int p3), .val (.int p4), .val (.int p5)] [(.int p2), (.int x3)]))
      by_cases hc20 : x3 = p2
      · refine OGo.st (fun _ k => XS.icmpYes X0.here hx rfl (pc0 := 20) (pc' := 30) rfl (hb hby d3_20) rfl (teq hc20).1 (by decide) (by decide) k) ?_
        show OGo p e below s _ _ _ (s₁.setTop (mkF m 30 #[.val (.ref o0), .val (.int (3 : Int32)), .val (.int p2), .val (.int p3), .val (.int p4), .val (.int p5)] []))
        refine OGo.st (fun _ k => XS.iconst X0.here hx rfl (hb hby d3_30) k) ?_
        show OGo p e below s _ _ _ (s₁.setTop (mkF m 31 #[.val (.ref o0), .val (.int (3 : Int32)), .val (.int p2), .val (.int p3), .val (.int p4), .val (.int p5)] [(.int (1 : Int32))]))
        refine OGo.st (fun _ k => XS.goto X0.here hx rfl (pc0 := 31) (pc' := 35) rfl (hb hby d3_31) (by decide) (by decide) k) ?_
        show OGo p e below s _ _ _ (s₁.setTop (mkF m 35 #[.val (.ref o0), .val (.int (3 : Int32)), .val (.int p2), .val (.int p3), .val (.int p4), .val (.int p5)] [(.int (1 : Int32))]))
        exact oretN X0 hx Bd.notSynchronized (t := .boolean) Bd.returns (by simp) (hb hby d3_35) (z' := (1 : Int32)) (by decide) e0 ⟨(congrArg (fun z => some (Value.int z)) (show (1 : Int32) = f3L3 p2 p3 p4 p5 x3 from Eq.symm (by unfold f3L3; exact (if_neg hc3).trans ((if_pos hc11).trans (if_pos hc20))))), N0, rfl⟩ (by decide) (by decide)
      · refine OGo.st (fun _ k => XS.icmpNo X0.here hx rfl (hb hby d3_20) rfl (feq hc20).1 k) ?_
        show OGo p e below s _ _ _ (s₁.setTop (mkF m 23 #[.val (.ref o0), .val (.int (3 : Int32)), .val (.int p2), .val (.int p3), .val (.int p4), .val (.int p5)] []))
        refine OGo.st (fun _ k => XS.aloadN X0.here hx rfl (hb hby d3_23) rfl rfl k) ?_
        show OGo p e below s _ _ _ (s₁.setTop (mkF m 24 #[.val (.ref o0), .val (.int (3 : Int32)), .val (.int p2), .val (.int p3), .val (.int p4), .val (.int p5)] [(.ref o0)]))
        refine OGo.st (fun _ k => XS.iloadN X0.here hx rfl (hb hby d3_24) rfl k) ?_
        show OGo p e below s _ _ _ (s₁.setTop (mkF m 25 #[.val (.ref o0), .val (.int (3 : Int32)), .val (.int p2), .val (.int p3), .val (.int p4), .val (.int p5)] [(.int (3 : Int32)), (.ref o0)]))
        obtain ⟨cl2, Ar2, q2, Sz2, Nn2, Hs2, Gs2⟩ := id V_o0
        have hin2 : ¬ ((3 : Int32) < 0 ∨ cl2.slots.size ≤ ((3 : Int32)).toNatClampNeg) := inb_of Sz2 ⟨by decide, by decide⟩
        have hat2 : cl2.slots[((3 : Int32)).toNatClampNeg]? = some (.int x3) := Hs2.at hin2 rfl
        refine OGo.st (fun _ k => X0.baloadBytes hx (j := (3 : Int32)) (v := (.int x3)) (by rw [e0]; exact Ar2.1) (State.isArrayOf_alike hZ.alike Ar2.2.1) Ar2.2.2 hin2 hat2 (g := (mkF m 25 #[.val (.ref o0), .val (.int (3 : Int32)), .val (.int p2), .val (.int p3), .val (.int p4), .val (.int p5)] [(.int (3 : Int32)), (.ref o0)])) rfl rfl (hb hby d3_25) _ k) ?_
        show OGo p e below s _ _ _ (s₁.setTop (mkF m 26 #[.val (.ref o0), .val (.int (3 : Int32)), .val (.int p2), .val (.int p3), .val (.int p4), .val (.int p5)] [(.int x3)]))
        refine OGo.st (fun _ k => XS.iloadN X0.here hx rfl (hb hby d3_26) rfl k) ?_
        show OGo p e below s _ _ _ (s₁.setTop (mkF m 27 #[.val (.ref o0), .val (.int (3 : Int32)), .val (.int p2), .val (.int p3), .val (.int p4), .val (.int p5)] [(.int p3), (.int x3)]))
        by_cases hc27 : x3 = p3
        · refine OGo.st (fun _ k => XS.icmpNo X0.here hx rfl (hb hby d3_27) rfl (teq hc27).2 k) ?_
          show OGo p e below s _ _ _ (s₁.setTop (mkF m 30 #[.val (.ref o0), .val (.int (3 : Int32)), .val (.int p2), .val (.int p3), .val (.int p4), .val (.int p5)] []))
          refine OGo.st (fun _ k => XS.iconst X0.here hx rfl (hb hby d3_30) k) ?_
          show OGo p e below s _ _ _ (s₁.setTop (mkF m 31 #[.val (.ref o0), .val (.int (3 : Int32)), .val (.int p2), .val (.int p3), .val (.int p4), .val (.int p5)] [(.int (1 : Int32))]))
          refine OGo.st (fun _ k => XS.goto X0.here hx rfl (pc0 := 31) (pc' := 35) rfl (hb hby d3_31) (by decide) (by decide) k) ?_
          show OGo p e below s _ _ _ (s₁.setTop (mkF m 35 #[.val (.ref o0), .val (.int (3 : Int32)), .val (.int p2), .val (.int p3), .val (.int p4), .val (.int p5)] [(.int (1 : Int32))]))
          exact oretN X0 hx Bd.notSynchronized (t := .boolean) Bd.returns (by simp) (hb hby d3_35) (z' := (1 : Int32)) (by decide) e0 ⟨(congrArg (fun z => some (Value.int z)) (show (1 : Int32) = f3L3 p2 p3 p4 p5 x3 from Eq.symm (by unfold f3L3; exact (if_neg hc3).trans ((if_pos hc11).trans ((if_neg hc20).trans (if_pos hc27)))))), N0, rfl⟩ (by decide) (by decide)
        · refine OGo.st (fun _ k => XS.icmpYes X0.here hx rfl (pc0 := 27) (pc' := 34) rfl (hb hby d3_27) rfl (feq hc27).2 (by decide) (by decide) k) ?_
          show OGo p e below s _ _ _ (s₁.setTop (mkF m 34 #[.val (.ref o0), .val (.int (3 : Int32)), .val (.int p2), .val (.int p3), .val (.int p4), .val (.int p5)] []))
          refine OGo.st (fun _ k => XS.iconst X0.here hx rfl (hb hby d3_34) k) ?_
          show OGo p e below s _ _ _ (s₁.setTop (mkF m 35 #[.val (.ref o0), .val (.int (3 : Int32)), .val (.int p2), .val (.int p3), .val (.int p4), .val (.int p5)] [(.int (0 : Int32))]))
          exact oretN X0 hx Bd.notSynchronized (t := .boolean) Bd.returns (by simp) (hb hby d3_35) (z' := (0 : Int32)) (by decide) e0 ⟨(congrArg (fun z => some (Value.int z)) (show (0 : Int32) = f3L3 p2 p3 p4 p5 x3 from Eq.symm (by unfold f3L3; exact (if_neg hc3).trans ((if_pos hc11).trans ((if_neg hc20).trans (if_neg hc27)))))), N0, rfl⟩ (by decide) (by decide)
    · refine OGo.st (fun _ k => XS.icmpNo X0.here hx rfl (hb hby d3_11) rfl (flt hc11).1 k) ?_
      show OGo p e below s _ _ _ (s₁.setTop (mkF m 14 #[.val (.ref o0), .val (.int (3 : Int32)), .val (.int p2), .val (.int p3), .val (.int p4), .val (.int p5)] []))
      refine OGo.st (fun _ k => XS.iconst X0.here hx rfl (hb hby d3_14) k) ?_
      show OGo p e below s _ _ _ (s₁.setTop (mkF m 15 #[.val (.ref o0), .val (.int (3 : Int32)), .val (.int p2), .val (.int p3), .val (.int p4), .val (.int p5)] [(.int (0 : Int32))]))
      exact oretN X0 hx Bd.notSynchronized (t := .boolean) Bd.returns (by simp) (hb hby d3_15) (z' := (0 : Int32)) (by decide) e0 ⟨(congrArg (fun z => some (Value.int z)) (show (0 : Int32) = f3L3 p2 p3 p4 p5 x3 from Eq.symm (by unfold f3L3; exact (if_neg hc3).trans (if_neg hc11)))), N0, rfl⟩ (by decide) (by decide)
theorem ef_3L4 (m : MethodId) (o0 : Addr) (p2 : Int32) (p3 : Int32) (p4 : Int32) (p5 : Int32) : entryFrame m #[(.ref o0), (.int (4 : Int32)), (.int p2), (.int p3), (.int p4), (.int p5)] 6 = mkF m 0 #[.val (.ref o0), .val (.int (4 : Int32)), .val (.int p2), .val (.int p3), .val (.int p4), .val (.int p5)] [] := by first | (simp [entryFrame, mkF, argsToLocals, Value.category]; done) | rfl
def f3L4 (p2 : Int32) (p3 : Int32) (p4 : Int32) (p5 : Int32) (x4 : Int32) : Int32 := (if (4 : Int32) < p4 then (0 : Int32) else (if (4 : Int32) < p5 then (if x4 = p2 then (1 : Int32) else (if x4 = p3 then (1 : Int32) else (0 : Int32))) else (0 : Int32)))
def Q3L4 (Z : State) (o0 : Addr) (p2 : Int32) (p3 : Int32) (p4 : Int32) (p5 : Int32) (k_o0 : ClassId) (x0 : Int32) (x1 : Int32) (x2 : Int32) (x3 : Int32) (x4 : Int32) (h0 : Heap) (n0 : Nat) (v : Option Value) (h : Heap) (L : List Loc) : Prop := v = some (.int (f3L4 p2 p3 p4 p5 x4)) ∧ Fr n0 L ∧ h = h0
set_option maxRecDepth 65536 in
set_option maxHeartbeats 40000000 in
theorem rm3L4 (l : Launch) (Z : State) (a0 : Array Value) (hw : ∀ d ∈ tables_1, d.before a0 Z = true) (ws : List Jvm.Cond) (o0 : Addr) (p2 : Int32) (p3 : Int32) (p4 : Int32) (p5 : Int32) (k_o0 : ClassId) (x0 : Int32) (x1 : Int32) (x2 : Int32) (x3 : Int32) (x4 : Int32) (h0 : Heap) (n0 : Nat) (Z0 : n0 ≤ h0.size) (V_o0 : Arv Z h0 o0 k_o0 .byte (5 : Int32) [(.int x0), (.int x1), (.int x2), (.int x3), (.int x4)] (.int (0 : Int32))) :
    MetFree l (⟨"com/example/assaywire/assaywire/protocol/BytesIndexOfEitherPinLaw", "hit", "([BIBBII)Z"⟩ : MethodName) (head1 (Jvm.Cond.code (⟨"com/example/assaywire/assaywire/protocol/BytesIndexOfEitherPinLaw", "hit", "([BIBBII)Z"⟩ : MethodName) method_4_code 6 (some .boolean) :: ws) ({ frames := 0, cells := 0, slots := 0, locals := 0 } : Room)) (fun a U => a = #[(.ref o0), (.int (4 : Int32)), (.int p2), (.int p3), (.int p4), (.int p5)] ∧ Z.Warmed39 U.vm ∧ U.heap = h0) (fun _ _ _ _ _ => True) (fun _ U o U' => ∃ v L, o = .returned v ∧ Q3L4 Z o0 p2 p3 p4 p5 k_o0 x0 x1 x2 x3 x4 h0 n0 v U'.heap L ∧ FrameEnd U o U' L ({ frames := 0, cells := 0, slots := 0, locals := 0 } : Room).cells ({ frames := 0, cells := 0, slots := 0, locals := 0 } : Room).slots) := by
  refine MetFree.of_bodySF (plainFor_of_name pn_3) hisR ?_
  intro p e s m args below meth c s₁ Bd hml0 hP hK
  obtain ⟨rfl, hZ, hh⟩ := hP
  have hx := Bd.exec
  have hby := Bd.bytes
  have hml : c.maxLocals = 6 := hml0
  have hown : s.vm.findClass "com/example/assaywire/assaywire/protocol/BytesIndexOfEitherPinLaw" = some m.cls := findClass_of_methodNamed Bd.named
  have hnm := (name_of_methodNamed Bd.named Bd.method).1
  have X0 : Stand p l e ({ frames := 0, cells := 0, slots := 0, locals := 0 } : Room) s m #[(.ref o0), (.int (4 : Int32)), (.int p2), (.int p3), (.int p4), (.int p5)] below meth c s₁ [] 0 0 := Stand.of_body Bd
  have e0 : s₁.heap = h0 := by rw [← hh, Bd.state]; rfl
  have N0 := Fr.nil n0
  show OGo p e below s (Q3L4 Z o0 p2 p3 p4 p5 k_o0 x0 x1 x2 x3 x4 h0 n0) ({ frames := 0, cells := 0, slots := 0, locals := 0 } : Room).cells ({ frames := 0, cells := 0, slots := 0, locals := 0 } : Room).slots _
  refine OGo.st (fun _ k => castTop (ef_3L4 m o0 p2 p3 p4 p5) k) ?_
  show OGo p e below s _ _ _ (s₁.setTop (mkF m 0 #[.val (.ref o0), .val (.int (4 : Int32)), .val (.int p2), .val (.int p3), .val (.int p4), .val (.int p5)] []))
  refine OGo.st (fun _ k => XS.iloadN X0.here hx rfl (hb hby d3_0) rfl k) ?_
  show OGo p e below s _ _ _ (s₁.setTop (mkF m 1 #[.val (.ref o0), .val (.int (4 : Int32)), .val (.int p2), .val (.int p3), .val (.int p4), .val (.int p5)] [(.int (4 : Int32))]))
  refine OGo.st (fun _ k => XS.iload X0.here hx rfl (hb hby d3_1) rfl k) ?_
  show OGo p e below s _ _ _ (s₁.setTop (mkF m 3 #[.val (.ref o0), .val (.int (4 : Int32)), .val (.int p2), .val (.int p3), .val (.int p4), .val (.int p5)] [(.int p4), (.int (4 : Int32))]))
  by_cases hc3 : (4 : Int32) < p4
  · refine OGo.st (fun _ k => XS.icmpNo X0.here hx rfl (hb hby d3_3) rfl (tlt hc3).2.1 k) ?_
    show OGo p e below s _ _ _ (s₁.setTop (mkF m 6 #[.val (.ref o0), .val (.int (4 : Int32)), .val (.int p2), .val (.int p3), .val (.int p4), .val (.int p5)] []))
    refine OGo.st (fun _ k => XS.iconst X0.here hx rfl (hb hby d3_6) k) ?_
    show OGo p e below s _ _ _ (s₁.setTop (mkF m 7 #[.val (.ref o0), .val (.int (4 : Int32)), .val (.int p2), .val (.int p3), .val (.int p4), .val (.int p5)] [(.int (0 : Int32))]))
    exact oretN X0 hx Bd.notSynchronized (t := .boolean) Bd.returns (by simp) (hb hby d3_7) (z' := (0 : Int32)) (by decide) e0 ⟨(congrArg (fun z => some (Value.int z)) (show (0 : Int32) = f3L4 p2 p3 p4 p5 x4 from Eq.symm (by unfold f3L4; exact if_pos hc3))), N0, rfl⟩ (by decide) (by decide)
  · refine OGo.st (fun _ k => XS.icmpYes X0.here hx rfl (pc0 := 3) (pc' := 8) rfl (hb hby d3_3) rfl (flt hc3).2.1 (by decide) (by decide) k) ?_
    show OGo p e below s _ _ _ (s₁.setTop (mkF m 8 #[.val (.ref o0), .val (.int (4 : Int32)), .val (.int p2), .val (.int p3), .val (.int p4), .val (.int p5)] []))
    refine OGo.st (fun _ k => XS.iloadN X0.here hx rfl (hb hby d3_8) rfl k) ?_
    show OGo p e below s _ _ _ (s₁.setTop (mkF m 9 #[.val (.ref o0), .val (.int (4 : Int32)), .val (.int p2), .val (.int p3), .val (.int p4), .val (.int p5)] [(.int (4 : Int32))]))
    refine OGo.st (fun _ k => XS.iload X0.here hx rfl (hb hby d3_9) rfl k) ?_
    show OGo p e below s _ _ _ (s₁.setTop (mkF m 11 #[.val (.ref o0), .val (.int (4 : Int32)), .val (.int p2), .val (.int p3), .val (.int p4), .val (.int p5)] [(.int p5), (.int (4 : Int32))]))
    by_cases hc11 : (4 : Int32) < p5
    · refine OGo.st (fun _ k => XS.icmpYes X0.here hx rfl (pc0 := 11) (pc' := 16) rfl (hb hby d3_11) rfl (tlt hc11).1 (by decide) (by decide) k) ?_
      show OGo p e below s _ _ _ (s₁.setTop (mkF m 16 #[.val (.ref o0), .val (.int (4 : Int32)), .val (.int p2), .val (.int p3), .val (.int p4), .val (.int p5)] []))
      refine OGo.st (fun _ k => XS.aloadN X0.here hx rfl (hb hby d3_16) rfl rfl k) ?_
      show OGo p e below s _ _ _ (s₁.setTop (mkF m 17 #[.val (.ref o0), .val (.int (4 : Int32)), .val (.int p2), .val (.int p3), .val (.int p4), .val (.int p5)] [(.ref o0)]))
      refine OGo.st (fun _ k => XS.iloadN X0.here hx rfl (hb hby d3_17) rfl k) ?_
      show OGo p e below s _ _ _ (s₁.setTop (mkF m 18 #[.val (.ref o0), .val (.int (4 : Int32)), .val (.int p2), .val (.int p3), .val (.int p4), .val (.int p5)] [(.int (4 : Int32)), (.ref o0)]))
      obtain ⟨cl1, Ar1, q1, Sz1, Nn1, Hs1, Gs1⟩ := id V_o0
      have hin1 : ¬ ((4 : Int32) < 0 ∨ cl1.slots.size ≤ ((4 : Int32)).toNatClampNeg) := inb_of Sz1 ⟨by decide, by decide⟩
      have hat1 : cl1.slots[((4 : Int32)).toNatClampNeg]? = some (.int x4) := Hs1.at hin1 rfl
      refine OGo.st (fun _ k => X0.baloadBytes hx (j := (4 : Int32)) (v := (.int x4)) (by rw [e0]; exact Ar1.1) (State.isArrayOf_alike hZ.alike Ar1.2.1) Ar1.2.2 hin1 hat1 (g := (mkF m 18 #[.val (.ref o0), .val (.int (4 : Int32)), .val (.int p2), .val (.int p3), .val (.int p4), .val (.int p5)] [(.int (4 : Int32)), (.ref o0)])) rfl rfl (hb hby d3_18) _ k) ?_
      show OGo p e below s _ _ _ (s₁.setTop (mkF m 19 #[.val (.ref o0), .val (.int (4 : Int32)), .val (.int p2), .val (.int p3), .val (.int p4), .val (.int p5)] [(.int x4)]))
      refine OGo.st (fun _ k => XS.iloadN X0.here hx rfl (hb hby d3_19) rfl k) ?_
      show OGo p e below s _ _ _ (s₁.setTop (mkF m 20 #[.val (.ref o0), .val (.int (4 : Int32)), .val (.int p2), .val (.int p3), .val (.int p4), .val (.int p5)] [(.int p2), (.int x4)]))
      by_cases hc20 : x4 = p2
      · refine OGo.st (fun _ k => XS.icmpYes X0.here hx rfl (pc0 := 20) (pc' := 30) rfl (hb hby d3_20) rfl (teq hc20).1 (by decide) (by decide) k) ?_
        show OGo p e below s _ _ _ (s₁.setTop (mkF m 30 #[.val (.ref o0), .val (.int (4 : Int32)), .val (.int p2), .val (.int p3), .val (.int p4), .val (.int p5)] []))
        refine OGo.st (fun _ k => XS.iconst X0.here hx rfl (hb hby d3_30) k) ?_
        show OGo p e below s _ _ _ (s₁.setTop (mkF m 31 #[.val (.ref o0), .val (.int (4 : Int32)), .val (.int p2), .val (.int p3), .val (.int p4), .val (.int p5)] [(.int (1 : Int32))]))
        refine OGo.st (fun _ k => XS.goto X0.here hx rfl (pc0 := 31) (pc' := 35) rfl (hb hby d3_31) (by decide) (by decide) k) ?_
        show OGo p e below s _ _ _ (s₁.setTop (mkF m 35 #[.val (.ref o0), .val (.int (4 : Int32)), .val (.int p2), .val (.int p3), .val (.int p4), .val (.int p5)] [(.int (1 : Int32))]))
        exact oretN X0 hx Bd.notSynchronized (t := .boolean) Bd.returns (by simp) (hb hby d3_35) (z' := (1 : Int32)) (by decide) e0 ⟨(congrArg (fun z => some (Value.int z)) (show (1 : Int32) = f3L4 p2 p3 p4 p5 x4 from Eq.symm (by unfold f3L4; exact (if_neg hc3).trans ((if_pos hc11).trans (if_pos hc20))))), N0, rfl⟩ (by decide) (by decide)
      · refine OGo.st (fun _ k => XS.icmpNo X0.here hx rfl (hb hby d3_20) rfl (feq hc20).1 k) ?_
        show OGo p e below s _ _ _ (s₁.setTop (mkF m 23 #[.val (.ref o0), .val (.int (4 : Int32)), .val (.int p2), .val (.int p3), .val (.int p4), .val (.int p5)] []))
        refine OGo.st (fun _ k => XS.aloadN X0.here hx rfl (hb hby d3_23) rfl rfl k) ?_
        show OGo p e below s _ _ _ (s₁.setTop (mkF m 24 #[.val (.ref o0), .val (.int (4 : Int32)), .val (.int p2), .val (.int p3), .val (.int p4), .val (.int p5)] [(.ref o0)]))
        refine OGo.st (fun _ k => XS.iloadN X0.here hx rfl (hb hby d3_24) rfl k) ?_
        show OGo p e below s _ _ _ (s₁.setTop (mkF m 25 #[.val (.ref o0), .val (.int (4 : Int32)), .val (.int p2), .val (.int p3), .val (.int p4), .val (.int p5)] [(.int (4 : Int32)), (.ref o0)]))
        obtain ⟨cl2, Ar2, q2, Sz2, Nn2, Hs2, Gs2⟩ := id V_o0
        have hin2 : ¬ ((4 : Int32) < 0 ∨ cl2.slots.size ≤ ((4 : Int32)).toNatClampNeg) := inb_of Sz2 ⟨by decide, by decide⟩
        have hat2 : cl2.slots[((4 : Int32)).toNatClampNeg]? = some (.int x4) := Hs2.at hin2 rfl
        refine OGo.st (fun _ k => X0.baloadBytes hx (j := (4 : Int32)) (v := (.int x4)) (by rw [e0]; exact Ar2.1) (State.isArrayOf_alike hZ.alike Ar2.2.1) Ar2.2.2 hin2 hat2 (g := (mkF m 25 #[.val (.ref o0), .val (.int (4 : Int32)), .val (.int p2), .val (.int p3), .val (.int p4), .val (.int p5)] [(.int (4 : Int32)), (.ref o0)])) rfl rfl (hb hby d3_25) _ k) ?_
        show OGo p e below s _ _ _ (s₁.setTop (mkF m 26 #[.val (.ref o0), .val (.int (4 : Int32)), .val (.int p2), .val (.int p3), .val (.int p4), .val (.int p5)] [(.int x4)]))
        refine OGo.st (fun _ k => XS.iloadN X0.here hx rfl (hb hby d3_26) rfl k) ?_
        show OGo p e below s _ _ _ (s₁.setTop (mkF m 27 #[.val (.ref o0), .val (.int (4 : Int32)), .val (.int p2), .val (.int p3), .val (.int p4), .val (.int p5)] [(.int p3), (.int x4)]))
        by_cases hc27 : x4 = p3
        · refine OGo.st (fun _ k => XS.icmpNo X0.here hx rfl (hb hby d3_27) rfl (teq hc27).2 k) ?_
          show OGo p e below s _ _ _ (s₁.setTop (mkF m 30 #[.val (.ref o0), .val (.int (4 : Int32)), .val (.int p2), .val (.int p3), .val (.int p4), .val (.int p5)] []))
          refine OGo.st (fun _ k => XS.iconst X0.here hx rfl (hb hby d3_30) k) ?_
          show OGo p e below s _ _ _ (s₁.setTop (mkF m 31 #[.val (.ref o0), .val (.int (4 : Int32)), .val (.int p2), .val (.int p3), .val (.int p4), .val (.int p5)] [(.int (1 : Int32))]))
          refine OGo.st (fun _ k => XS.goto X0.here hx rfl (pc0 := 31) (pc' := 35) rfl (hb hby d3_31) (by decide) (by decide) k) ?_
          show OGo p e below s _ _ _ (s₁.setTop (mkF m 35 #[.val (.ref o0), .val (.int (4 : Int32)), .val (.int p2), .val (.int p3), .val (.int p4), .val (.int p5)] [(.int (1 : Int32))]))
          exact oretN X0 hx Bd.notSynchronized (t := .boolean) Bd.returns (by simp) (hb hby d3_35) (z' := (1 : Int32)) (by decide) e0 ⟨(congrArg (fun z => some (Value.int z)) (show (1 : Int32) = f3L4 p2 p3 p4 p5 x4 from Eq.symm (by unfold f3L4; exact (if_neg hc3).trans ((if_pos hc11).trans ((if_neg hc20).trans (if_pos hc27)))))), N0, rfl⟩ (by decide) (by decide)
        · refine OGo.st (fun _ k => XS.icmpYes X0.here hx rfl (pc0 := 27) (pc' := 34) rfl (hb hby d3_27) rfl (feq hc27).2 (by decide) (by decide) k) ?_
          show OGo p e below s _ _ _ (s₁.setTop (mkF m 34 #[.val (.ref o0), .val (.int (4 : Int32)), .val (.int p2), .val (.int p3), .val (.int p4), .val (.int p5)] []))
          refine OGo.st (fun _ k => XS.iconst X0.here hx rfl (hb hby d3_34) k) ?_
          show OGo p e below s _ _ _ (s₁.setTop (mkF m 35 #[.val (.ref o0), .val (.int (4 : Int32)), .val (.int p2), .val (.int p3), .val (.int p4), .val (.int p5)] [(.int (0 : Int32))]))
          exact oretN X0 hx Bd.notSynchronized (t := .boolean) Bd.returns (by simp) (hb hby d3_35) (z' := (0 : Int32)) (by decide) e0 ⟨(congrArg (fun z => some (Value.int z)) (show (0 : Int32) = f3L4 p2 p3 p4 p5 x4 from Eq.symm (by unfold f3L4; exact (if_neg hc3).trans ((if_pos hc11).trans ((if_neg hc20).trans (if_neg hc27)))))), N0, rfl⟩ (by decide) (by decide)
    · refine OGo.st (fun _ k => XS.icmpNo X0.here hx rfl (hb hby d3_11) rfl (flt hc11).1 k) ?_
      show OGo p e below s _ _ _ (s₁.setTop (mkF m 14 #[.val (.ref o0), .val (.int (4 : Int32)), .val (.int p2), .val (.int p3), .val (.int p4), .val (.int p5)] []))
      refine OGo.st (fun _ k => XS.iconst X0.here hx rfl (hb hby d3_14) k) ?_
      show OGo p e below s _ _ _ (s₁.setTop (mkF m 15 #[.val (.ref o0), .val (.int (4 : Int32)), .val (.int p2), .val (.int p3), .val (.int p4), .val (.int p5)] [(.int (0 : Int32))]))
      exact oretN X0 hx Bd.notSynchronized (t := .boolean) Bd.returns (by simp) (hb hby d3_15) (z' := (0 : Int32)) (by decide) e0 ⟨(congrArg (fun z => some (Value.int z)) (show (0 : Int32) = f3L4 p2 p3 p4 p5 x4 from Eq.symm (by unfold f3L4; exact (if_neg hc3).trans (if_neg hc11)))), N0, rfl⟩ (by decide) (by decide)
def own_at (x0 x1 x2 x3 x4 i : Int32) : Int32 := if i = 0 then x0 else if i = 1 then x1 else if i = 2 then x2 else if i = 3 then x3 else x4
def own_loop (x0 x1 x2 x3 x4 a b t : Int32) : Nat → Int32 → Int32
  | 0, _ => -1
  | k + 1, i => if i < t then (if own_at x0 x1 x2 x3 x4 i = a then i else (if own_at x0 x1 x2 x3 x4 i = b then i else own_loop x0 x1 x2 x3 x4 a b t k (i + 1))) else -1
theorem own_loop_zero (x0 x1 x2 x3 x4 a b t i : Int32) : own_loop x0 x1 x2 x3 x4 a b t 0 i = -1 := rfl
theorem own_loop_succ (x0 x1 x2 x3 x4 a b t : Int32) (k : Nat) (i : Int32) : own_loop x0 x1 x2 x3 x4 a b t (k + 1) i = if i < t then (if own_at x0 x1 x2 x3 x4 i = a then i else (if own_at x0 x1 x2 x3 x4 i = b then i else own_loop x0 x1 x2 x3 x4 a b t k (i + 1))) else -1 := rfl
theorem own_c0 : (0 : Int32).toInt = 0 := by decide
theorem own_c1 : (1 : Int32).toInt = 1 := by decide
theorem own_c2 : (2 : Int32).toInt = 2 := by decide
theorem own_c3 : (3 : Int32).toInt = 3 := by decide
theorem own_c4 : (4 : Int32).toInt = 4 := by decide
theorem own_c5 : (5 : Int32).toInt = 5 := by decide
theorem own_lt5 {i t : Int32} (h : i < t) (ht : t.toInt ≤ 5) : i.toInt < 5 := by rw [Int32.lt_iff_toInt_lt] at h; omega
theorem own_done {i t : Int32} (h : 5 ≤ i.toInt + (0 : Nat)) (ht : t.toInt ≤ 5) : ¬ i < t := by rw [Int32.lt_iff_toInt_lt]; omega
theorem own_add1 {i : Int32} (h0 : ¬ i < (0 : Int32)) (h5 : i.toInt < 5) : (i + 1).toInt = i.toInt + 1 := by
  rw [Int32.lt_iff_toInt_lt, own_c0] at h0
  rw [Jvm.Kit.i32_add (by rw [own_c1]; omega) (by rw [own_c1]; omega), own_c1]
theorem own_i1 {i : Int32} (h0 : ¬ i < (0 : Int32)) (h5 : i.toInt < 5) : ¬ (i + 1) < (0 : Int32) := by
  have e := own_add1 h0 h5; rw [Int32.lt_iff_toInt_lt, own_c0] at *; omega
theorem own_k1 {i : Int32} {k : Nat} (h0 : ¬ i < (0 : Int32)) (h5 : i.toInt < 5) (h : 5 ≤ i.toInt + ((k + 1 : Nat) : Int)) : 5 ≤ (i + 1).toInt + (k : Int) := by
  have e := own_add1 h0 h5; omega
theorem own_k0 {i : Int32} (h0 : ¬ i < (0 : Int32)) : 5 ≤ i.toInt + ((5 : Nat) : Int) := by rw [Int32.lt_iff_toInt_lt, own_c0] at h0; omega
theorem own_inb {i : Int32} (h0 : ¬ i < (0 : Int32)) (h5 : i.toInt < 5) : ¬ i < 0 ∧ i < (5 : Int32) := ⟨h0, by rw [Int32.lt_iff_toInt_lt, own_c5]; exact h5⟩
theorem own_five {i : Int32} (h0 : ¬ i < (0 : Int32)) (h5 : i.toInt < 5) : i = 0 ∨ i = 1 ∨ i = 2 ∨ i = 3 ∨ i = 4 := by
  rw [Int32.lt_iff_toInt_lt, own_c0] at h0
  simp only [← Int32.toInt_inj, own_c0, own_c1, own_c2, own_c3, own_c4]; omega
theorem own_get (x0 x1 x2 x3 x4 i : Int32) (h0 : ¬ i < (0 : Int32)) (h5 : i.toInt < 5) : [(Value.int x0), .int x1, .int x2, .int x3, .int x4].getD i.toNatClampNeg (.int (0 : Int32)) = .int (own_at x0 x1 x2 x3 x4 i) := by
  rcases own_five h0 h5 with rfl | rfl | rfl | rfl | rfl <;> rfl
theorem own_six (a : Int32) : 0 ≤ ((a &&& (2147483647 : Int32)) % (6 : Int32)).toInt ∧ ((a &&& (2147483647 : Int32)) % (6 : Int32)).toInt ≤ 5 := by
  have e := Jvm.Kit.i32_mask a 2147483647 (k := 31) (by decide) (by decide)
  have r := Jvm.Kit.i32_rem_nonneg (x := a &&& 2147483647) (y := 6) (by omega)
  have h6 : (6 : Int32).toInt = 6 := by decide
  rw [r, h6]; omega
theorem own_from (a : Int32) : ¬ (((a &&& (2147483647 : Int32)) % (6 : Int32)) < (0 : Int32)) := by
  rw [Int32.lt_iff_toInt_lt, own_c0]; have := own_six a; omega
theorem own_to (a : Int32) : ((a &&& (2147483647 : Int32)) % (6 : Int32)).toInt ≤ 5 := (own_six a).2
theorem d2_0 : decode prog_82_method_4_code 0 = .ok (.iload_n 3, 1) := by decide +kernel
theorem d2_1 : decode prog_82_method_4_code 1 = .ok (.istore 5, 2) := by decide +kernel
theorem d2_3 : decode prog_82_method_4_code 3 = .ok (.iload 5, 2) := by decide +kernel
theorem d2_5 : decode prog_82_method_4_code 5 = .ok (.iload 4, 2) := by decide +kernel
theorem d2_7 : decode prog_82_method_4_code 7 = .ok (.if_icmp .ge 28, 3) := by decide +kernel
theorem d2_10 : decode prog_82_method_4_code 10 = .ok (.aload_n 0, 1) := by decide +kernel
theorem d2_11 : decode prog_82_method_4_code 11 = .ok (.iload 5, 2) := by decide +kernel
theorem d2_13 : decode prog_82_method_4_code 13 = .ok (.baload, 1) := by decide +kernel
theorem d2_14 : decode prog_82_method_4_code 14 = .ok (.iload_n 1, 1) := by decide +kernel
theorem d2_15 : decode prog_82_method_4_code 15 = .ok (.if_icmp .eq 11, 3) := by decide +kernel
theorem d2_18 : decode prog_82_method_4_code 18 = .ok (.aload_n 0, 1) := by decide +kernel
theorem d2_19 : decode prog_82_method_4_code 19 = .ok (.iload 5, 2) := by decide +kernel
theorem d2_21 : decode prog_82_method_4_code 21 = .ok (.baload, 1) := by decide +kernel
theorem d2_22 : decode prog_82_method_4_code 22 = .ok (.iload_n 2, 1) := by decide +kernel
theorem d2_23 : decode prog_82_method_4_code 23 = .ok (.if_icmp .ne 6, 3) := by decide +kernel
theorem d2_26 : decode prog_82_method_4_code 26 = .ok (.iload 5, 2) := by decide +kernel
theorem d2_28 : decode prog_82_method_4_code 28 = .ok (.ireturn, 1) := by decide +kernel
theorem d2_29 : decode prog_82_method_4_code 29 = .ok (.iinc 5 1, 3) := by decide +kernel
theorem d2_32 : decode prog_82_method_4_code 32 = .ok (.goto (-29), 3) := by decide +kernel
theorem d2_35 : decode prog_82_method_4_code 35 = .ok (.iconst (-1), 1) := by decide +kernel
theorem d2_36 : decode prog_82_method_4_code 36 = .ok (.ireturn, 1) := by decide +kernel
theorem pn_2 : plainName "com/example/assaywire/assaywire/protocol/Bytes" = true := by first | (simp [plainName, overriddenIn]; done) | decide +kernel
theorem ef_2 (m : MethodId) (o0 : Addr) (p1 : Int32) (p2 : Int32) (p3 : Int32) (p4 : Int32) : entryFrame m #[(.ref o0), (.int p1), (.int p2), (.int p3), (.int p4)] 6 = mkF m 0 #[.val (.ref o0), .val (.int p1), .val (.int p2), .val (.int p3), .val (.int p4), .unset] [] := by first | (simp [entryFrame, mkF, argsToLocals, Value.category]; done) | rfl
def f2 (p1 : Int32) (p2 : Int32) (p3 : Int32) (p4 : Int32) (x0 : Int32) (x1 : Int32) (x2 : Int32) (x3 : Int32) (x4 : Int32) : Int32 := (own_loop x0 x1 x2 x3 x4 p1 p2 p4 5 p3)
def Q2 (Z : State) (o0 : Addr) (p1 : Int32) (p2 : Int32) (p3 : Int32) (p4 : Int32) (k_o0 : ClassId) (x0 : Int32) (x1 : Int32) (x2 : Int32) (x3 : Int32) (x4 : Int32) (h0 : Heap) (n0 : Nat) (v : Option Value) (h : Heap) (L : List Loc) : Prop := v = some (.int (f2 p1 p2 p3 p4 x0 x1 x2 x3 x4)) ∧ Fr n0 L ∧ h = h0
set_option maxRecDepth 65536 in
set_option maxHeartbeats 40000000 in
theorem rm2 (l : Launch) (Z : State) (a0 : Array Value) (hw : ∀ d ∈ tables_1, d.before a0 Z = true) (ws : List Jvm.Cond) (o0 : Addr) (p1 : Int32) (p2 : Int32) (p3 : Int32) (p4 : Int32) (k_o0 : ClassId) (x0 : Int32) (x1 : Int32) (x2 : Int32) (x3 : Int32) (x4 : Int32) (h0 : Heap) (n0 : Nat) (Z0 : n0 ≤ h0.size) (V_o0 : Arv Z h0 o0 k_o0 .byte (5 : Int32) [(.int x0), (.int x1), (.int x2), (.int x3), (.int x4)] (.int (0 : Int32))) (hp3 : ¬ (p3 < (0 : Int32))) (hp4 : p4.toInt ≤ 5) :
    MetFree l (⟨"com/example/assaywire/assaywire/protocol/Bytes", "indexOfEither", "([BBBII)I"⟩ : MethodName) (head1 (Jvm.Cond.code (⟨"com/example/assaywire/assaywire/protocol/Bytes", "indexOfEither", "([BBBII)I"⟩ : MethodName) prog_82_method_4_code 6 (some .int) :: ws) ({ frames := 0, cells := 0, slots := 0, locals := 0 } : Room)) (fun a U => a = #[(.ref o0), (.int p1), (.int p2), (.int p3), (.int p4)] ∧ Z.Warmed39 U.vm ∧ U.heap = h0) (fun _ _ _ _ _ => True) (fun _ U o U' => ∃ v L, o = .returned v ∧ Q2 Z o0 p1 p2 p3 p4 k_o0 x0 x1 x2 x3 x4 h0 n0 v U'.heap L ∧ FrameEnd U o U' L ({ frames := 0, cells := 0, slots := 0, locals := 0 } : Room).cells ({ frames := 0, cells := 0, slots := 0, locals := 0 } : Room).slots) := by
  refine MetFree.of_bodySF (plainFor_of_name pn_2) hisR ?_
  intro p e s m args below meth c s₁ Bd hml0 hP hK
  obtain ⟨rfl, hZ, hh⟩ := hP
  have hx := Bd.exec
  have hby := Bd.bytes
  have hml : c.maxLocals = 6 := hml0
  have hown : s.vm.findClass "com/example/assaywire/assaywire/protocol/Bytes" = some m.cls := findClass_of_methodNamed Bd.named
  have hnm := (name_of_methodNamed Bd.named Bd.method).1
  have X0 : Stand p l e ({ frames := 0, cells := 0, slots := 0, locals := 0 } : Room) s m #[(.ref o0), (.int p1), (.int p2), (.int p3), (.int p4)] below meth c s₁ [] 0 0 := Stand.of_body Bd
  have e0 : s₁.heap = h0 := by rw [← hh, Bd.state]; rfl
  have N0 := Fr.nil n0
  show OGo p e below s (Q2 Z o0 p1 p2 p3 p4 k_o0 x0 x1 x2 x3 x4 h0 n0) ({ frames := 0, cells := 0, slots := 0, locals := 0 } : Room).cells ({ frames := 0, cells := 0, slots := 0, locals := 0 } : Room).slots _
  refine OGo.st (fun _ k => castTop (ef_2 m o0 p1 p2 p3 p4) k) ?_
  show OGo p e below s _ _ _ (s₁.setTop (mkF m 0 #[.val (.ref o0), .val (.int p1), .val (.int p2), .val (.int p3), .val (.int p4), .unset] []))
  refine OGo.st (fun _ k => XS.iloadN X0.here hx rfl (hb hby d2_0) rfl k) ?_
  show OGo p e below s _ _ _ (s₁.setTop (mkF m 1 #[.val (.ref o0), .val (.int p1), .val (.int p2), .val (.int p3), .val (.int p4), .unset] [(.int p3)]))
  refine OGo.st (fun _ k => XS.istore X0.here hx rfl (hb hby d2_1) rfl (l' := #[.val (.ref o0), .val (.int p1), .val (.int p2), .val (.int p3), .val (.int p4), .val (.int p3)]) rfl k) ?_
  show OGo p e below s _ _ _ (s₁.setTop (mkF m 3 #[.val (.ref o0), .val (.int p1), .val (.int p2), .val (.int p3), .val (.int p4), .val (.int p3)] []))
  have hloop : ∀ (k : Nat) (i : Int32) (hi0 : ¬ i < (0 : Int32)) (hik : 5 ≤ i.toInt + k) (hfi : f2 p1 p2 p3 p4 x0 x1 x2 x3 x4 = own_loop x0 x1 x2 x3 x4 p1 p2 p4 k i), OGo p e below s (Q2 Z o0 p1 p2 p3 p4 k_o0 x0 x1 x2 x3 x4 h0 n0) ({ frames := 0, cells := 0, slots := 0, locals := 0 } : Room).cells ({ frames := 0, cells := 0, slots := 0, locals := 0 } : Room).slots (s₁.setTop (mkF m 3 #[.val (.ref o0), .val (.int p1), .val (.int p2), .val (.int p3), .val (.int p4), .val (.int i)] [])) := by
    intro k
    induction k with
    | zero =>
      intro i hi0 hik hfi
      refine OGo.st (fun _ k => XS.iload X0.here hx rfl (hb hby d2_3) rfl k) ?_
      show OGo p e below s _ _ _ (s₁.setTop (mkF m 5 #[.val (.ref o0), .val (.int p1), .val (.int p2), .val (.int p3), .val (.int p4), .val (.int i)] [(.int i)]))
      refine OGo.st (fun _ k => XS.iload X0.here hx rfl (hb hby d2_5) rfl k) ?_
      show OGo p e below s _ _ _ (s₁.setTop (mkF m 7 #[.val (.ref o0), .val (.int p1), .val (.int p2), .val (.int p3), .val (.int p4), .val (.int i)] [(.int p4), (.int i)]))
      refine OGo.st (fun _ k => XS.icmpYes X0.here hx rfl (pc0 := 7) (pc' := 35) rfl (hb hby d2_7) rfl (flt (own_done hik hp4)).2.1 (by decide) (by decide) k) ?_
      show OGo p e below s _ _ _ (s₁.setTop (mkF m 35 #[.val (.ref o0), .val (.int p1), .val (.int p2), .val (.int p3), .val (.int p4), .val (.int i)] []))
      refine OGo.st (fun _ k => XS.iconst X0.here hx rfl (hb hby d2_35) k) ?_
      show OGo p e below s _ _ _ (s₁.setTop (mkF m 36 #[.val (.ref o0), .val (.int p1), .val (.int p2), .val (.int p3), .val (.int p4), .val (.int i)] [(.int (-1 : Int32))]))
      exact oretI X0 hx Bd.notSynchronized Bd.returns (hb hby d2_36) e0 ⟨(congrArg (fun z => some (Value.int z)) (show (-1 : Int32) = f2 p1 p2 p3 p4 x0 x1 x2 x3 x4 from Eq.symm (hfi.trans (own_loop_zero x0 x1 x2 x3 x4 p1 p2 p4 i)))), N0, rfl⟩ (by decide) (by decide)
    | succ k ih =>
      intro i hi0 hik hfi
      refine OGo.st (fun _ k => XS.iload X0.here hx rfl (hb hby d2_3) rfl k) ?_
      show OGo p e below s _ _ _ (s₁.setTop (mkF m 5 #[.val (.ref o0), .val (.int p1), .val (.int p2), .val (.int p3), .val (.int p4), .val (.int i)] [(.int i)]))
      refine OGo.st (fun _ k => XS.iload X0.here hx rfl (hb hby d2_5) rfl k) ?_
      show OGo p e below s _ _ _ (s₁.setTop (mkF m 7 #[.val (.ref o0), .val (.int p1), .val (.int p2), .val (.int p3), .val (.int p4), .val (.int i)] [(.int p4), (.int i)]))
      by_cases hc7 : i < p4
      · refine OGo.st (fun _ k => XS.icmpNo X0.here hx rfl (hb hby d2_7) rfl (tlt hc7).2.1 k) ?_
        show OGo p e below s _ _ _ (s₁.setTop (mkF m 10 #[.val (.ref o0), .val (.int p1), .val (.int p2), .val (.int p3), .val (.int p4), .val (.int i)] []))
        refine OGo.st (fun _ k => XS.aloadN X0.here hx rfl (hb hby d2_10) rfl rfl k) ?_
        show OGo p e below s _ _ _ (s₁.setTop (mkF m 11 #[.val (.ref o0), .val (.int p1), .val (.int p2), .val (.int p3), .val (.int p4), .val (.int i)] [(.ref o0)]))
        refine OGo.st (fun _ k => XS.iload X0.here hx rfl (hb hby d2_11) rfl k) ?_
        show OGo p e below s _ _ _ (s₁.setTop (mkF m 13 #[.val (.ref o0), .val (.int p1), .val (.int p2), .val (.int p3), .val (.int p4), .val (.int i)] [(.int i), (.ref o0)]))
        obtain ⟨cl1, Ar1, q1, Sz1, Nn1, Hs1, Gs1⟩ := id V_o0
        have hin1 : ¬ (i < 0 ∨ cl1.slots.size ≤ (i).toNatClampNeg) := inb_of Sz1 (own_inb hi0 (own_lt5 hc7 hp4))
        have hat1 : cl1.slots[(i).toNatClampNeg]? = some (.int (own_at x0 x1 x2 x3 x4 i)) := Hs1.at hin1 (own_get x0 x1 x2 x3 x4 _ hi0 (own_lt5 hc7 hp4))
        refine OGo.st (fun _ k => X0.baloadBytes hx (j := i) (v := (.int (own_at x0 x1 x2 x3 x4 i))) (by rw [e0]; exact Ar1.1) (State.isArrayOf_alike hZ.alike Ar1.2.1) Ar1.2.2 hin1 hat1 (g := (mkF m 13 #[.val (.ref o0), .val (.int p1), .val (.int p2), .val (.int p3), .val (.int p4), .val (.int i)] [(.int i), (.ref o0)])) rfl rfl (hb hby d2_13) _ k) ?_
        show OGo p e below s _ _ _ (s₁.setTop (mkF m 14 #[.val (.ref o0), .val (.int p1), .val (.int p2), .val (.int p3), .val (.int p4), .val (.int i)] [(.int (own_at x0 x1 x2 x3 x4 i))]))
        refine OGo.st (fun _ k => XS.iloadN X0.here hx rfl (hb hby d2_14) rfl k) ?_
        show OGo p e below s _ _ _ (s₁.setTop (mkF m 15 #[.val (.ref o0), .val (.int p1), .val (.int p2), .val (.int p3), .val (.int p4), .val (.int i)] [(.int p1), (.int (own_at x0 x1 x2 x3 x4 i))]))
        by_cases hc15 : (own_at x0 x1 x2 x3 x4 i) = p1
        · refine OGo.st (fun _ k => XS.icmpYes X0.here hx rfl (pc0 := 15) (pc' := 26) rfl (hb hby d2_15) rfl (teq hc15).1 (by decide) (by decide) k) ?_
          show OGo p e below s _ _ _ (s₁.setTop (mkF m 26 #[.val (.ref o0), .val (.int p1), .val (.int p2), .val (.int p3), .val (.int p4), .val (.int i)] []))
          refine OGo.st (fun _ k => XS.iload X0.here hx rfl (hb hby d2_26) rfl k) ?_
          show OGo p e below s _ _ _ (s₁.setTop (mkF m 28 #[.val (.ref o0), .val (.int p1), .val (.int p2), .val (.int p3), .val (.int p4), .val (.int i)] [(.int i)]))
          exact oretI X0 hx Bd.notSynchronized Bd.returns (hb hby d2_28) e0 ⟨(congrArg (fun z => some (Value.int z)) (show i = f2 p1 p2 p3 p4 x0 x1 x2 x3 x4 from Eq.symm (hfi.trans ((own_loop_succ x0 x1 x2 x3 x4 p1 p2 p4 k i).trans ((if_pos hc7).trans (if_pos hc15)))))), N0, rfl⟩ (by decide) (by decide)
        · refine OGo.st (fun _ k => XS.icmpNo X0.here hx rfl (hb hby d2_15) rfl (feq hc15).1 k) ?_
          show OGo p e below s _ _ _ (s₁.setTop (mkF m 18 #[.val (.ref o0), .val (.int p1), .val (.int p2), .val (.int p3), .val (.int p4), .val (.int i)] []))
          refine OGo.st (fun _ k => XS.aloadN X0.here hx rfl (hb hby d2_18) rfl rfl k) ?_
          show OGo p e below s _ _ _ (s₁.setTop (mkF m 19 #[.val (.ref o0), .val (.int p1), .val (.int p2), .val (.int p3), .val (.int p4), .val (.int i)] [(.ref o0)]))
          refine OGo.st (fun _ k => XS.iload X0.here hx rfl (hb hby d2_19) rfl k) ?_
          show OGo p e below s _ _ _ (s₁.setTop (mkF m 21 #[.val (.ref o0), .val (.int p1), .val (.int p2), .val (.int p3), .val (.int p4), .val (.int i)] [(.int i), (.ref o0)]))
          obtain ⟨cl2, Ar2, q2, Sz2, Nn2, Hs2, Gs2⟩ := id V_o0
          have hin2 : ¬ (i < 0 ∨ cl2.slots.size ≤ (i).toNatClampNeg) := inb_of Sz2 (own_inb hi0 (own_lt5 hc7 hp4))
          have hat2 : cl2.slots[(i).toNatClampNeg]? = some (.int (own_at x0 x1 x2 x3 x4 i)) := Hs2.at hin2 (own_get x0 x1 x2 x3 x4 _ hi0 (own_lt5 hc7 hp4))
          refine OGo.st (fun _ k => X0.baloadBytes hx (j := i) (v := (.int (own_at x0 x1 x2 x3 x4 i))) (by rw [e0]; exact Ar2.1) (State.isArrayOf_alike hZ.alike Ar2.2.1) Ar2.2.2 hin2 hat2 (g := (mkF m 21 #[.val (.ref o0), .val (.int p1), .val (.int p2), .val (.int p3), .val (.int p4), .val (.int i)] [(.int i), (.ref o0)])) rfl rfl (hb hby d2_21) _ k) ?_
          show OGo p e below s _ _ _ (s₁.setTop (mkF m 22 #[.val (.ref o0), .val (.int p1), .val (.int p2), .val (.int p3), .val (.int p4), .val (.int i)] [(.int (own_at x0 x1 x2 x3 x4 i))]))
          refine OGo.st (fun _ k => XS.iloadN X0.here hx rfl (hb hby d2_22) rfl k) ?_
          show OGo p e below s _ _ _ (s₁.setTop (mkF m 23 #[.val (.ref o0), .val (.int p1), .val (.int p2), .val (.int p3), .val (.int p4), .val (.int i)] [(.int p2), (.int (own_at x0 x1 x2 x3 x4 i))]))
          by_cases hc23 : (own_at x0 x1 x2 x3 x4 i) = p2
          · refine OGo.st (fun _ k => XS.icmpNo X0.here hx rfl (hb hby d2_23) rfl (teq hc23).2 k) ?_
            show OGo p e below s _ _ _ (s₁.setTop (mkF m 26 #[.val (.ref o0), .val (.int p1), .val (.int p2), .val (.int p3), .val (.int p4), .val (.int i)] []))
            refine OGo.st (fun _ k => XS.iload X0.here hx rfl (hb hby d2_26) rfl k) ?_
            show OGo p e below s _ _ _ (s₁.setTop (mkF m 28 #[.val (.ref o0), .val (.int p1), .val (.int p2), .val (.int p3), .val (.int p4), .val (.int i)] [(.int i)]))
            exact oretI X0 hx Bd.notSynchronized Bd.returns (hb hby d2_28) e0 ⟨(congrArg (fun z => some (Value.int z)) (show i = f2 p1 p2 p3 p4 x0 x1 x2 x3 x4 from Eq.symm (hfi.trans ((own_loop_succ x0 x1 x2 x3 x4 p1 p2 p4 k i).trans ((if_pos hc7).trans ((if_neg hc15).trans (if_pos hc23))))))), N0, rfl⟩ (by decide) (by decide)
          · refine OGo.st (fun _ k => XS.icmpYes X0.here hx rfl (pc0 := 23) (pc' := 29) rfl (hb hby d2_23) rfl (feq hc23).2 (by decide) (by decide) k) ?_
            show OGo p e below s _ _ _ (s₁.setTop (mkF m 29 #[.val (.ref o0), .val (.int p1), .val (.int p2), .val (.int p3), .val (.int p4), .val (.int i)] []))
            refine OGo.st (fun _ k => XS.iinc X0.here hx rfl (hb hby d2_29) rfl (l' := #[.val (.ref o0), .val (.int p1), .val (.int p2), .val (.int p3), .val (.int p4), .val (.int (i + (1 : Int32)))]) rfl k) ?_
            show OGo p e below s _ _ _ (s₁.setTop (mkF m 32 #[.val (.ref o0), .val (.int p1), .val (.int p2), .val (.int p3), .val (.int p4), .val (.int (i + (1 : Int32)))] []))
            refine OGo.st (fun _ k => XS.goto X0.here hx rfl (pc0 := 32) (pc' := 3) rfl (hb hby d2_32) (by decide) (by decide) k) ?_
            show OGo p e below s _ _ _ (s₁.setTop (mkF m 3 #[.val (.ref o0), .val (.int p1), .val (.int p2), .val (.int p3), .val (.int p4), .val (.int (i + (1 : Int32)))] []))
            exact ih (i + (1 : Int32)) (own_i1 hi0 (own_lt5 hc7 hp4)) (own_k1 hi0 (own_lt5 hc7 hp4) hik) (hfi.trans ((own_loop_succ x0 x1 x2 x3 x4 p1 p2 p4 k i).trans ((if_pos hc7).trans ((if_neg hc15).trans (if_neg hc23)))))
      · refine OGo.st (fun _ k => XS.icmpYes X0.here hx rfl (pc0 := 7) (pc' := 35) rfl (hb hby d2_7) rfl (flt hc7).2.1 (by decide) (by decide) k) ?_
        show OGo p e below s _ _ _ (s₁.setTop (mkF m 35 #[.val (.ref o0), .val (.int p1), .val (.int p2), .val (.int p3), .val (.int p4), .val (.int i)] []))
        refine OGo.st (fun _ k => XS.iconst X0.here hx rfl (hb hby d2_35) k) ?_
        show OGo p e below s _ _ _ (s₁.setTop (mkF m 36 #[.val (.ref o0), .val (.int p1), .val (.int p2), .val (.int p3), .val (.int p4), .val (.int i)] [(.int (-1 : Int32))]))
        exact oretI X0 hx Bd.notSynchronized Bd.returns (hb hby d2_36) e0 ⟨(congrArg (fun z => some (Value.int z)) (show (-1 : Int32) = f2 p1 p2 p3 p4 x0 x1 x2 x3 x4 from Eq.symm (hfi.trans ((own_loop_succ x0 x1 x2 x3 x4 p1 p2 p4 k i).trans (if_neg hc7))))), N0, rfl⟩ (by decide) (by decide)
  exact hloop 5 p3 hp3 (own_k0 hp3) (by unfold f2; exact rfl)
theorem pn_0 : plainName "com/example/assaywire/assaywire/protocol/BytesIndexOfEitherPinLaw" = true := by first | (simp [plainName, overriddenIn]; done) | decide +kernel
theorem pd_0_0 : parseMethodDescriptor "(JIIBB)B" = some ⟨[.long, .int, .int, .byte, .byte], some .byte⟩ := by decide +kernel
theorem pd_0_1 : parseMethodDescriptor "([BBBII)I" = some ⟨[(.array .byte), .byte, .byte, .int, .int], some .int⟩ := by decide +kernel
theorem pd_0_2 : parseMethodDescriptor "([BIBBII)Z" = some ⟨[(.array .byte), .int, .byte, .byte, .int, .int], some .boolean⟩ := by decide +kernel
theorem ef_0 (m : MethodId) (q0 : Int64) (p1 : Int32) (p2 : Int32) (p3 : Int32) (p4 : Int32) : entryFrame m #[(.long q0), (.int p1), (.int p2), (.int p3), (.int p4)] maxLocals = mkF m 0 #[.val (.long q0), .second, .val (.int p1), .val (.int p2), .val (.int p3), .val (.int p4), .unset, .unset, .unset, .unset, .unset, .unset, .unset] [] := by first | (simp [entryFrame, mkF, argsToLocals, Value.category, maxLocals]; done) | rfl
def v0_0 (q0 : Int64) (p1 : Int32) (p2 : Int32) (p3 : Int32) (p4 : Int32) : Int32 := ((((p4.toUInt32 >>> ((8 : Int32) &&& 31).toUInt32).toInt32) &&& (2147483647 : Int32)) % (6 : Int32))
def v0_1 (q0 : Int64) (p1 : Int32) (p2 : Int32) (p3 : Int32) (p4 : Int32) : Int32 := (f2 (p2.toInt8.toInt32) (p3.toInt8.toInt32) ((p4 &&& (2147483647 : Int32)) % (6 : Int32)) (v0_0 q0 p1 p2 p3 p4) (nar .byte (f1 q0 p1 (0 : Int32) (p2.toInt8.toInt32) (p3.toInt8.toInt32))) (nar .byte (f1 q0 p1 (1 : Int32) (p2.toInt8.toInt32) (p3.toInt8.toInt32))) (nar .byte (f1 q0 p1 (2 : Int32) (p2.toInt8.toInt32) (p3.toInt8.toInt32))) (nar .byte (f1 q0 p1 (3 : Int32) (p2.toInt8.toInt32) (p3.toInt8.toInt32))) (nar .byte (f1 q0 p1 (4 : Int32) (p2.toInt8.toInt32) (p3.toInt8.toInt32))))
def f0_237 (q0 : Int64) (p1 : Int32) (p2 : Int32) (p3 : Int32) (p4 : Int32) (j237_0 : Int32) : Int32 := (if (v0_1 q0 p1 p2 p3 p4) = j237_0 then (1 : Int32) else (0 : Int32))
def f0 (q0 : Int64) (p1 : Int32) (p2 : Int32) (p3 : Int32) (p4 : Int32) : Int32 := (if (f3L0 (p2.toInt8.toInt32) (p3.toInt8.toInt32) ((p4 &&& (2147483647 : Int32)) % (6 : Int32)) (v0_0 q0 p1 p2 p3 p4) (nar .byte (f1 q0 p1 (0 : Int32) (p2.toInt8.toInt32) (p3.toInt8.toInt32)))) = (0 : Int32) then (if (f3L1 (p2.toInt8.toInt32) (p3.toInt8.toInt32) ((p4 &&& (2147483647 : Int32)) % (6 : Int32)) (v0_0 q0 p1 p2 p3 p4) (nar .byte (f1 q0 p1 (1 : Int32) (p2.toInt8.toInt32) (p3.toInt8.toInt32)))) = (0 : Int32) then (if (f3L2 (p2.toInt8.toInt32) (p3.toInt8.toInt32) ((p4 &&& (2147483647 : Int32)) % (6 : Int32)) (v0_0 q0 p1 p2 p3 p4) (nar .byte (f1 q0 p1 (2 : Int32) (p2.toInt8.toInt32) (p3.toInt8.toInt32)))) = (0 : Int32) then (if (f3L3 (p2.toInt8.toInt32) (p3.toInt8.toInt32) ((p4 &&& (2147483647 : Int32)) % (6 : Int32)) (v0_0 q0 p1 p2 p3 p4) (nar .byte (f1 q0 p1 (3 : Int32) (p2.toInt8.toInt32) (p3.toInt8.toInt32)))) = (0 : Int32) then (if (f3L4 (p2.toInt8.toInt32) (p3.toInt8.toInt32) ((p4 &&& (2147483647 : Int32)) % (6 : Int32)) (v0_0 q0 p1 p2 p3 p4) (nar .byte (f1 q0 p1 (4 : Int32) (p2.toInt8.toInt32) (p3.toInt8.toInt32)))) = (0 : Int32) then (f0_237 q0 p1 p2 p3 p4 (-1 : Int32)) else (f0_237 q0 p1 p2 p3 p4 (4 : Int32))) else (f0_237 q0 p1 p2 p3 p4 (3 : Int32))) else (f0_237 q0 p1 p2 p3 p4 (2 : Int32))) else (f0_237 q0 p1 p2 p3 p4 (1 : Int32))) else (f0_237 q0 p1 p2 p3 p4 (0 : Int32)))
def Q0 (Z : State) (q0 : Int64) (p1 : Int32) (p2 : Int32) (p3 : Int32) (p4 : Int32) (h0 : Heap) (n0 : Nat) (v : Option Value) (h : Heap) (L : List Loc) : Prop := v = some (.int (f0 q0 p1 p2 p3 p4)) ∧ Fr n0 L
set_option maxRecDepth 65536 in
set_option maxHeartbeats 40000000 in
theorem rm0 (l : Launch) (Z : State) (a0 : Array Value) (hw : ∀ d ∈ tables_1, d.before a0 Z = true) (ws : List Jvm.Cond) (q0 : Int64) (p1 : Int32) (p2 : Int32) (p3 : Int32) (p4 : Int32) (h0 : Heap) (n0 : Nat) (Z0 : n0 ≤ h0.size) :
    MetFree l x (head1 (Jvm.Cond.code x code maxLocals ret :: ws) room_1) (fun a U => a = #[(.long q0), (.int p1), (.int p2), (.int p3), (.int p4)] ∧ Z.Warmed39 U.vm ∧ U.heap = h0) (fun _ _ _ _ _ => True) (fun _ U o U' => ∃ v L, o = .returned v ∧ Q0 Z q0 p1 p2 p3 p4 h0 n0 v U'.heap L ∧ FrameEnd U o U' L room_1.cells room_1.slots) := by
  refine MetFree.of_bodySF (plainFor_of_name pn_0) hisR ?_
  intro p e s m args below meth c s₁ Bd hml0 hP hK
  obtain ⟨rfl, hZ, hh⟩ := hP
  have hx := Bd.exec
  have hby := Bd.bytes
  have hml : c.maxLocals = 13 := hml0
  have hown : s.vm.findClass "com/example/assaywire/assaywire/protocol/BytesIndexOfEitherPinLaw" = some m.cls := findClass_of_methodNamed Bd.named
  have hnm := (name_of_methodNamed Bd.named Bd.method).1
  have X0 : Stand p l e room_1 s m #[(.long q0), (.int p1), (.int p2), (.int p3), (.int p4)] below meth c s₁ [] 0 0 := Stand.of_body Bd
  have e0 : s₁.heap = h0 := by rw [← hh, Bd.state]; rfl
  have N0 := Fr.nil n0
  show OGo p e below s (Q0 Z q0 p1 p2 p3 p4 h0 n0) room_1.cells room_1.slots _
  refine OGo.st (fun _ k => castTop (ef_0 m q0 p1 p2 p3 p4) k) ?_
  show OGo p e below s _ _ _ (s₁.setTop (mkF m 0 #[.val (.long q0), .second, .val (.int p1), .val (.int p2), .val (.int p3), .val (.int p4), .unset, .unset, .unset, .unset, .unset, .unset, .unset] []))
  refine OGo.st (fun _ k => XS.iloadN X0.here hx rfl (hb hby at_0) rfl k) ?_
  show OGo p e below s _ _ _ (s₁.setTop (mkF m 1 #[.val (.long q0), .second, .val (.int p1), .val (.int p2), .val (.int p3), .val (.int p4), .unset, .unset, .unset, .unset, .unset, .unset, .unset] [(.int p2)]))
  refine OGo.st (fun _ k => XS.i2b X0.here hx rfl (hb hby at_1) rfl k) ?_
  show OGo p e below s _ _ _ (s₁.setTop (mkF m 2 #[.val (.long q0), .second, .val (.int p1), .val (.int p2), .val (.int p3), .val (.int p4), .unset, .unset, .unset, .unset, .unset, .unset, .unset] [(.int (p2.toInt8.toInt32))]))
  refine OGo.st (fun _ k => XS.istore X0.here hx rfl (hb hby at_2) rfl (l' := #[.val (.long q0), .second, .val (.int p1), .val (.int p2), .val (.int p3), .val (.int p4), .val (.int (p2.toInt8.toInt32)), .unset, .unset, .unset, .unset, .unset, .unset]) rfl k) ?_
  show OGo p e below s _ _ _ (s₁.setTop (mkF m 4 #[.val (.long q0), .second, .val (.int p1), .val (.int p2), .val (.int p3), .val (.int p4), .val (.int (p2.toInt8.toInt32)), .unset, .unset, .unset, .unset, .unset, .unset] []))
  refine OGo.st (fun _ k => XS.iload X0.here hx rfl (hb hby at_4) rfl k) ?_
  show OGo p e below s _ _ _ (s₁.setTop (mkF m 6 #[.val (.long q0), .second, .val (.int p1), .val (.int p2), .val (.int p3), .val (.int p4), .val (.int (p2.toInt8.toInt32)), .unset, .unset, .unset, .unset, .unset, .unset] [(.int p3)]))
  refine OGo.st (fun _ k => XS.i2b X0.here hx rfl (hb hby at_6) rfl k) ?_
  show OGo p e below s _ _ _ (s₁.setTop (mkF m 7 #[.val (.long q0), .second, .val (.int p1), .val (.int p2), .val (.int p3), .val (.int p4), .val (.int (p2.toInt8.toInt32)), .unset, .unset, .unset, .unset, .unset, .unset] [(.int (p3.toInt8.toInt32))]))
  refine OGo.st (fun _ k => XS.istore X0.here hx rfl (hb hby at_7) rfl (l' := #[.val (.long q0), .second, .val (.int p1), .val (.int p2), .val (.int p3), .val (.int p4), .val (.int (p2.toInt8.toInt32)), .val (.int (p3.toInt8.toInt32)), .unset, .unset, .unset, .unset, .unset]) rfl k) ?_
  show OGo p e below s _ _ _ (s₁.setTop (mkF m 9 #[.val (.long q0), .second, .val (.int p1), .val (.int p2), .val (.int p3), .val (.int p4), .val (.int (p2.toInt8.toInt32)), .val (.int (p3.toInt8.toInt32)), .unset, .unset, .unset, .unset, .unset] []))
  refine OGo.st (fun _ k => XS.iconst X0.here hx rfl (hb hby at_9) k) ?_
  show OGo p e below s _ _ _ (s₁.setTop (mkF m 10 #[.val (.long q0), .second, .val (.int p1), .val (.int p2), .val (.int p3), .val (.int p4), .val (.int (p2.toInt8.toInt32)), .val (.int (p3.toInt8.toInt32)), .unset, .unset, .unset, .unset, .unset] [(.int (5 : Int32))]))
  obtain ⟨T1, h1, k1, X1, e1, E1, A1, st1⟩ := newP X0 hx hZ (hw _ (List.mem_of_getElem? (i := 0) rfl)) e0 (g := (mkF m 10 #[.val (.long q0), .second, .val (.int p1), .val (.int p2), .val (.int p3), .val (.int p4), .val (.int (p2.toInt8.toInt32)), .val (.int (p3.toInt8.toInt32)), .unset, .unset, .unset, .unset, .unset] [(.int (5 : Int32))])) rfl (hb hby at_10) rfl (by decide) (cap := 5) (by decide) (by decide) (by decide) (by decide)
  obtain ⟨b1, g1⟩ : ∃ z, z = h0.size := ⟨_, rfl⟩
  rw [← g1] at A1 st1
  refine OGo.st st1 ?_
  have g_b1 : n0 ≤ b1 := Nat.le_trans Z0 (Nat.le_of_eq g1.symm)
  have sz_b1 : h0.size ≤ b1 := Nat.le_trans (Keep.refl h0 []).1 (Nat.le_of_eq g1.symm)
  have K1 : Keep h0 h1 [] := (Keep.refl h0 _).ext E1
  have Z1 : n0 ≤ h1.size := Nat.le_trans Z0 E1.1
  have V_b1 : Arv Z h1 b1 k1 .byte (5 : Int32) [(.int (0 : Int32)), (.int (0 : Int32)), (.int (0 : Int32)), (.int (0 : Int32)), (.int (0 : Int32))] (.int (0 : Int32)) := (Arv.new A1 (by decide)).pad (pad_rep [] (.int (0 : Int32)) 5)
  show OGo p e below s _ _ _ (T1.setTop (mkF m 12 #[.val (.long q0), .second, .val (.int p1), .val (.int p2), .val (.int p3), .val (.int p4), .val (.int (p2.toInt8.toInt32)), .val (.int (p3.toInt8.toInt32)), .unset, .unset, .unset, .unset, .unset] [(.ref b1)]))
  refine OGo.st (fun _ k => XS.astore X1.here hx rfl (hb hby at_12) rfl rfl (l' := #[.val (.long q0), .second, .val (.int p1), .val (.int p2), .val (.int p3), .val (.int p4), .val (.int (p2.toInt8.toInt32)), .val (.int (p3.toInt8.toInt32)), .val (.ref b1), .unset, .unset, .unset, .unset]) rfl k) ?_
  show OGo p e below s _ _ _ (T1.setTop (mkF m 14 #[.val (.long q0), .second, .val (.int p1), .val (.int p2), .val (.int p3), .val (.int p4), .val (.int (p2.toInt8.toInt32)), .val (.int (p3.toInt8.toInt32)), .val (.ref b1), .unset, .unset, .unset, .unset] []))
  refine OGo.st (fun _ k => XS.aload X1.here hx rfl (hb hby at_14) rfl rfl k) ?_
  show OGo p e below s _ _ _ (T1.setTop (mkF m 16 #[.val (.long q0), .second, .val (.int p1), .val (.int p2), .val (.int p3), .val (.int p4), .val (.int (p2.toInt8.toInt32)), .val (.int (p3.toInt8.toInt32)), .val (.ref b1), .unset, .unset, .unset, .unset] [(.ref b1)]))
  refine OGo.st (fun _ k => XS.iconst X1.here hx rfl (hb hby at_16) k) ?_
  show OGo p e below s _ _ _ (T1.setTop (mkF m 17 #[.val (.long q0), .second, .val (.int p1), .val (.int p2), .val (.int p3), .val (.int p4), .val (.int (p2.toInt8.toInt32)), .val (.int (p3.toInt8.toInt32)), .val (.ref b1), .unset, .unset, .unset, .unset] [(.int (0 : Int32)), (.ref b1)]))
  refine OGo.st (fun _ k => XS.lloadN X1.here hx rfl (hb hby at_17) rfl k) ?_
  show OGo p e below s _ _ _ (T1.setTop (mkF m 18 #[.val (.long q0), .second, .val (.int p1), .val (.int p2), .val (.int p3), .val (.int p4), .val (.int (p2.toInt8.toInt32)), .val (.int (p3.toInt8.toInt32)), .val (.ref b1), .unset, .unset, .unset, .unset] [(.long q0), (.int (0 : Int32)), (.ref b1)]))
  refine OGo.st (fun _ k => XS.iloadN X1.here hx rfl (hb hby at_18) rfl k) ?_
  show OGo p e below s _ _ _ (T1.setTop (mkF m 19 #[.val (.long q0), .second, .val (.int p1), .val (.int p2), .val (.int p3), .val (.int p4), .val (.int (p2.toInt8.toInt32)), .val (.int (p3.toInt8.toInt32)), .val (.ref b1), .unset, .unset, .unset, .unset] [(.int p1), (.long q0), (.int (0 : Int32)), (.ref b1)]))
  refine OGo.st (fun _ k => XS.iconst X1.here hx rfl (hb hby at_19) k) ?_
  show OGo p e below s _ _ _ (T1.setTop (mkF m 20 #[.val (.long q0), .second, .val (.int p1), .val (.int p2), .val (.int p3), .val (.int p4), .val (.int (p2.toInt8.toInt32)), .val (.int (p3.toInt8.toInt32)), .val (.ref b1), .unset, .unset, .unset, .unset] [(.int (0 : Int32)), (.int p1), (.long q0), (.int (0 : Int32)), (.ref b1)]))
  refine OGo.st (fun _ k => XS.iload X1.here hx rfl (hb hby at_20) rfl k) ?_
  show OGo p e below s _ _ _ (T1.setTop (mkF m 22 #[.val (.long q0), .second, .val (.int p1), .val (.int p2), .val (.int p3), .val (.int p4), .val (.int (p2.toInt8.toInt32)), .val (.int (p3.toInt8.toInt32)), .val (.ref b1), .unset, .unset, .unset, .unset] [(.int (p2.toInt8.toInt32)), (.int (0 : Int32)), (.int p1), (.long q0), (.int (0 : Int32)), (.ref b1)]))
  refine OGo.st (fun _ k => XS.iload X1.here hx rfl (hb hby at_22) rfl k) ?_
  show OGo p e below s _ _ _ (T1.setTop (mkF m 24 #[.val (.long q0), .second, .val (.int p1), .val (.int p2), .val (.int p3), .val (.int p4), .val (.int (p2.toInt8.toInt32)), .val (.int (p3.toInt8.toInt32)), .val (.ref b1), .unset, .unset, .unset, .unset] [(.int (p3.toInt8.toInt32)), (.int (p2.toInt8.toInt32)), (.int (0 : Int32)), (.int p1), (.long q0), (.int (0 : Int32)), (.ref b1)]))
  obtain ⟨_, _, ⟨T2, L2, k2, n2⟩, -, X2, ⟨Lc2, hQ2, l2, y2, z2⟩, st2⟩ := Jvm.LawKit.callS X1 hx (y := (⟨"com/example/assaywire/assaywire/protocol/BytesIndexOfEitherPinLaw", "pick", "(JIIBB)B"⟩ : MethodName)) hown (mvT hZ (hw _ (List.mem_of_getElem? (i := 1) rfl))) (mvT hZ (hw _ (List.mem_of_getElem? (i := 2) rfl))) (mvT hZ (hw _ (List.mem_of_getElem? (i := 3) rfl))) (mvT hZ (hw _ (List.mem_of_getElem? (i := 4) rfl))) (by decide) (backOf (W := 2) (rm1 l Z a0 hw [] q0 p1 (0 : Int32) (p2.toInt8.toInt32) (p3.toInt8.toInt32) h1 n0 Z1) hZ (hw _ (List.mem_of_getElem? (i := 4) rfl)) (hw _ (List.mem_of_getElem? (i := 3) rfl)) (by decide) (by decide)) (g := (mkF m 24 #[.val (.long q0), .second, .val (.int p1), .val (.int p2), .val (.int p3), .val (.int p4), .val (.int (p2.toInt8.toInt32)), .val (.int (p3.toInt8.toInt32)), .val (.ref b1), .unset, .unset, .unset, .unset] [(.int (p3.toInt8.toInt32)), (.int (p2.toInt8.toInt32)), (.int (0 : Int32)), (.int p1), (.long q0), (.int (0 : Int32)), (.ref b1)])) rfl (by rw [hml]; rfl) (argsL := [(.long q0), (.int p1), (.int (0 : Int32)), (.int (p2.toInt8.toInt32)), (.int (p3.toInt8.toInt32))]) (rest := [(.int (0 : Int32)), (.ref b1)]) (lenOf pd_0_0 rfl) rfl (by show 2 * 0 + _ ≤ _; exact Nat.le_of_eq rfl) (hb hby at_24) (fun _ _ => ⟨rfl, e1, (by decide : 1 + 0 ≤ _), (by decide : 5 + 0 ≤ _)⟩)
  dsimp only [Pt.U, Pt.locs, Pt.cells, Pt.slots] at X2 l2 y2 z2 st2 hQ2
  subst l2 y2 z2
  obtain ⟨rfl, N2q, e2⟩ := hQ2
  have N2 := Fr.app N0 N2q
  refine OGo.st st2 ?_
  show OGo p e below s _ _ _ (T2.setTop (mkF m 27 #[.val (.long q0), .second, .val (.int p1), .val (.int p2), .val (.int p3), .val (.int p4), .val (.int (p2.toInt8.toInt32)), .val (.int (p3.toInt8.toInt32)), .val (.ref b1), .unset, .unset, .unset, .unset] [(.int (f1 q0 p1 (0 : Int32) (p2.toInt8.toInt32) (p3.toInt8.toInt32))), (.int (0 : Int32)), (.ref b1)]))
  obtain ⟨cl3, Ar3, q3, Sz3, Nn3, Hs3, Gs3⟩ := id V_b1
  have hin3 : ¬ ((0 : Int32) < 0 ∨ cl3.slots.size ≤ ((0 : Int32)).toNatClampNeg) := inb_of Sz3 ⟨by decide, by decide⟩
  obtain ⟨T3, h3, X3, e3, W3, st3⟩ := stB X2 hx hZ e2 Ar3 (j := (0 : Int32)) hin3 (g := (mkF m 27 #[.val (.long q0), .second, .val (.int p1), .val (.int p2), .val (.int p3), .val (.int p4), .val (.int (p2.toInt8.toInt32)), .val (.int (p3.toInt8.toInt32)), .val (.ref b1), .unset, .unset, .unset, .unset] [(.int (f1 q0 p1 (0 : Int32) (p2.toInt8.toInt32) (p3.toInt8.toInt32))), (.int (0 : Int32)), (.ref b1)])) rfl rfl (hb hby at_27)
  refine OGo.st st3 ?_
  have K3 : Keep h0 h3 [] := (K1).wr W3 (Or.inr sz_b1)
  have N3 := Fr.snoc X3 N2 g_b1
  have Z3 : n0 ≤ h3.size := Nat.le_trans Z1 (Keep.of_wr W3).1
  have V3 : Arv Z h3 b1 k1 .byte (5 : Int32) [(.int (nar .byte (f1 q0 p1 (0 : Int32) (p2.toInt8.toInt32) (p3.toInt8.toInt32)))), (.int (0 : Int32)), (.int (0 : Int32)), (.int (0 : Int32)), (.int (0 : Int32))] (.int (0 : Int32)) := Arv.set Ar3 q3 Sz3 Nn3 Hs3 Gs3 (fits_nar_byte _) W3 0 rfl (Nat.le_of_ble_eq_true rfl)
  show OGo p e below s _ _ _ (T3.setTop (mkF m 28 #[.val (.long q0), .second, .val (.int p1), .val (.int p2), .val (.int p3), .val (.int p4), .val (.int (p2.toInt8.toInt32)), .val (.int (p3.toInt8.toInt32)), .val (.ref b1), .unset, .unset, .unset, .unset] []))
  refine OGo.st (fun _ k => XS.aload X3.here hx rfl (hb hby at_28) rfl rfl k) ?_
  show OGo p e below s _ _ _ (T3.setTop (mkF m 30 #[.val (.long q0), .second, .val (.int p1), .val (.int p2), .val (.int p3), .val (.int p4), .val (.int (p2.toInt8.toInt32)), .val (.int (p3.toInt8.toInt32)), .val (.ref b1), .unset, .unset, .unset, .unset] [(.ref b1)]))
  refine OGo.st (fun _ k => XS.iconst X3.here hx rfl (hb hby at_30) k) ?_
  show OGo p e below s _ _ _ (T3.setTop (mkF m 31 #[.val (.long q0), .second, .val (.int p1), .val (.int p2), .val (.int p3), .val (.int p4), .val (.int (p2.toInt8.toInt32)), .val (.int (p3.toInt8.toInt32)), .val (.ref b1), .unset, .unset, .unset, .unset] [(.int (1 : Int32)), (.ref b1)]))
  refine OGo.st (fun _ k => XS.lloadN X3.here hx rfl (hb hby at_31) rfl k) ?_
  show OGo p e below s _ _ _ (T3.setTop (mkF m 32 #[.val (.long q0), .second, .val (.int p1), .val (.int p2), .val (.int p3), .val (.int p4), .val (.int (p2.toInt8.toInt32)), .val (.int (p3.toInt8.toInt32)), .val (.ref b1), .unset, .unset, .unset, .unset] [(.long q0), (.int (1 : Int32)), (.ref b1)]))
  refine OGo.st (fun _ k => XS.iloadN X3.here hx rfl (hb hby at_32) rfl k) ?_
  show OGo p e below s _ _ _ (T3.setTop (mkF m 33 #[.val (.long q0), .second, .val (.int p1), .val (.int p2), .val (.int p3), .val (.int p4), .val (.int (p2.toInt8.toInt32)), .val (.int (p3.toInt8.toInt32)), .val (.ref b1), .unset, .unset, .unset, .unset] [(.int p1), (.long q0), (.int (1 : Int32)), (.ref b1)]))
  refine OGo.st (fun _ k => XS.iconst X3.here hx rfl (hb hby at_33) k) ?_
  show OGo p e below s _ _ _ (T3.setTop (mkF m 34 #[.val (.long q0), .second, .val (.int p1), .val (.int p2), .val (.int p3), .val (.int p4), .val (.int (p2.toInt8.toInt32)), .val (.int (p3.toInt8.toInt32)), .val (.ref b1), .unset, .unset, .unset, .unset] [(.int (1 : Int32)), (.int p1), (.long q0), (.int (1 : Int32)), (.ref b1)]))
  refine OGo.st (fun _ k => XS.iload X3.here hx rfl (hb hby at_34) rfl k) ?_
  show OGo p e below s _ _ _ (T3.setTop (mkF m 36 #[.val (.long q0), .second, .val (.int p1), .val (.int p2), .val (.int p3), .val (.int p4), .val (.int (p2.toInt8.toInt32)), .val (.int (p3.toInt8.toInt32)), .val (.ref b1), .unset, .unset, .unset, .unset] [(.int (p2.toInt8.toInt32)), (.int (1 : Int32)), (.int p1), (.long q0), (.int (1 : Int32)), (.ref b1)]))
  refine OGo.st (fun _ k => XS.iload X3.here hx rfl (hb hby at_36) rfl k) ?_
  show OGo p e below s _ _ _ (T3.setTop (mkF m 38 #[.val (.long q0), .second, .val (.int p1), .val (.int p2), .val (.int p3), .val (.int p4), .val (.int (p2.toInt8.toInt32)), .val (.int (p3.toInt8.toInt32)), .val (.ref b1), .unset, .unset, .unset, .unset] [(.int (p3.toInt8.toInt32)), (.int (p2.toInt8.toInt32)), (.int (1 : Int32)), (.int p1), (.long q0), (.int (1 : Int32)), (.ref b1)]))
  obtain ⟨_, _, ⟨T4, L4, k4, n4⟩, -, X4, ⟨Lc4, hQ4, l4, y4, z4⟩, st4⟩ := Jvm.LawKit.callS X3 hx (y := (⟨"com/example/assaywire/assaywire/protocol/BytesIndexOfEitherPinLaw", "pick", "(JIIBB)B"⟩ : MethodName)) hown (mvT hZ (hw _ (List.mem_of_getElem? (i := 1) rfl))) (mvT hZ (hw _ (List.mem_of_getElem? (i := 2) rfl))) (mvT hZ (hw _ (List.mem_of_getElem? (i := 3) rfl))) (mvT hZ (hw _ (List.mem_of_getElem? (i := 4) rfl))) (by decide) (backOf (W := 2) (rm1 l Z a0 hw [] q0 p1 (1 : Int32) (p2.toInt8.toInt32) (p3.toInt8.toInt32) h3 n0 Z3) hZ (hw _ (List.mem_of_getElem? (i := 4) rfl)) (hw _ (List.mem_of_getElem? (i := 3) rfl)) (by decide) (by decide)) (g := (mkF m 38 #[.val (.long q0), .second, .val (.int p1), .val (.int p2), .val (.int p3), .val (.int p4), .val (.int (p2.toInt8.toInt32)), .val (.int (p3.toInt8.toInt32)), .val (.ref b1), .unset, .unset, .unset, .unset] [(.int (p3.toInt8.toInt32)), (.int (p2.toInt8.toInt32)), (.int (1 : Int32)), (.int p1), (.long q0), (.int (1 : Int32)), (.ref b1)])) rfl (by rw [hml]; rfl) (argsL := [(.long q0), (.int p1), (.int (1 : Int32)), (.int (p2.toInt8.toInt32)), (.int (p3.toInt8.toInt32))]) (rest := [(.int (1 : Int32)), (.ref b1)]) (lenOf pd_0_0 rfl) rfl (by show 2 * 0 + _ ≤ _; exact Nat.le_of_eq rfl) (hb hby at_38) (fun _ _ => ⟨rfl, e3, (by decide : 1 + 0 ≤ _), (by decide : 5 + 0 ≤ _)⟩)
  dsimp only [Pt.U, Pt.locs, Pt.cells, Pt.slots] at X4 l4 y4 z4 st4 hQ4
  subst l4 y4 z4
  obtain ⟨rfl, N4q, e4⟩ := hQ4
  have N4 := Fr.app N3 N4q
  refine OGo.st st4 ?_
  show OGo p e below s _ _ _ (T4.setTop (mkF m 41 #[.val (.long q0), .second, .val (.int p1), .val (.int p2), .val (.int p3), .val (.int p4), .val (.int (p2.toInt8.toInt32)), .val (.int (p3.toInt8.toInt32)), .val (.ref b1), .unset, .unset, .unset, .unset] [(.int (f1 q0 p1 (1 : Int32) (p2.toInt8.toInt32) (p3.toInt8.toInt32))), (.int (1 : Int32)), (.ref b1)]))
  obtain ⟨cl5, Ar5, q5, Sz5, Nn5, Hs5, Gs5⟩ := id V3
  have hin5 : ¬ ((1 : Int32) < 0 ∨ cl5.slots.size ≤ ((1 : Int32)).toNatClampNeg) := inb_of Sz5 ⟨by decide, by decide⟩
  obtain ⟨T5, h5, X5, e5, W5, st5⟩ := stB X4 hx hZ e4 Ar5 (j := (1 : Int32)) hin5 (g := (mkF m 41 #[.val (.long q0), .second, .val (.int p1), .val (.int p2), .val (.int p3), .val (.int p4), .val (.int (p2.toInt8.toInt32)), .val (.int (p3.toInt8.toInt32)), .val (.ref b1), .unset, .unset, .unset, .unset] [(.int (f1 q0 p1 (1 : Int32) (p2.toInt8.toInt32) (p3.toInt8.toInt32))), (.int (1 : Int32)), (.ref b1)])) rfl rfl (hb hby at_41)
  refine OGo.st st5 ?_
  have K5 : Keep h0 h5 [] := (K3).wr W5 (Or.inr sz_b1)
  have N5 := Fr.snoc X5 N4 g_b1
  have Z5 : n0 ≤ h5.size := Nat.le_trans Z3 (Keep.of_wr W5).1
  have V5 : Arv Z h5 b1 k1 .byte (5 : Int32) [(.int (nar .byte (f1 q0 p1 (0 : Int32) (p2.toInt8.toInt32) (p3.toInt8.toInt32)))), (.int (nar .byte (f1 q0 p1 (1 : Int32) (p2.toInt8.toInt32) (p3.toInt8.toInt32)))), (.int (0 : Int32)), (.int (0 : Int32)), (.int (0 : Int32))] (.int (0 : Int32)) := Arv.set Ar5 q5 Sz5 Nn5 Hs5 Gs5 (fits_nar_byte _) W5 1 rfl (Nat.le_of_ble_eq_true rfl)
  show OGo p e below s _ _ _ (T5.setTop (mkF m 42 #[.val (.long q0), .second, .val (.int p1), .val (.int p2), .val (.int p3), .val (.int p4), .val (.int (p2.toInt8.toInt32)), .val (.int (p3.toInt8.toInt32)), .val (.ref b1), .unset, .unset, .unset, .unset] []))
  refine OGo.st (fun _ k => XS.aload X5.here hx rfl (hb hby at_42) rfl rfl k) ?_
  show OGo p e below s _ _ _ (T5.setTop (mkF m 44 #[.val (.long q0), .second, .val (.int p1), .val (.int p2), .val (.int p3), .val (.int p4), .val (.int (p2.toInt8.toInt32)), .val (.int (p3.toInt8.toInt32)), .val (.ref b1), .unset, .unset, .unset, .unset] [(.ref b1)]))
  refine OGo.st (fun _ k => XS.iconst X5.here hx rfl (hb hby at_44) k) ?_
  show OGo p e below s _ _ _ (T5.setTop (mkF m 45 #[.val (.long q0), .second, .val (.int p1), .val (.int p2), .val (.int p3), .val (.int p4), .val (.int (p2.toInt8.toInt32)), .val (.int (p3.toInt8.toInt32)), .val (.ref b1), .unset, .unset, .unset, .unset] [(.int (2 : Int32)), (.ref b1)]))
  refine OGo.st (fun _ k => XS.lloadN X5.here hx rfl (hb hby at_45) rfl k) ?_
  show OGo p e below s _ _ _ (T5.setTop (mkF m 46 #[.val (.long q0), .second, .val (.int p1), .val (.int p2), .val (.int p3), .val (.int p4), .val (.int (p2.toInt8.toInt32)), .val (.int (p3.toInt8.toInt32)), .val (.ref b1), .unset, .unset, .unset, .unset] [(.long q0), (.int (2 : Int32)), (.ref b1)]))
  refine OGo.st (fun _ k => XS.iloadN X5.here hx rfl (hb hby at_46) rfl k) ?_
  show OGo p e below s _ _ _ (T5.setTop (mkF m 47 #[.val (.long q0), .second, .val (.int p1), .val (.int p2), .val (.int p3), .val (.int p4), .val (.int (p2.toInt8.toInt32)), .val (.int (p3.toInt8.toInt32)), .val (.ref b1), .unset, .unset, .unset, .unset] [(.int p1), (.long q0), (.int (2 : Int32)), (.ref b1)]))
  refine OGo.st (fun _ k => XS.iconst X5.here hx rfl (hb hby at_47) k) ?_
  show OGo p e below s _ _ _ (T5.setTop (mkF m 48 #[.val (.long q0), .second, .val (.int p1), .val (.int p2), .val (.int p3), .val (.int p4), .val (.int (p2.toInt8.toInt32)), .val (.int (p3.toInt8.toInt32)), .val (.ref b1), .unset, .unset, .unset, .unset] [(.int (2 : Int32)), (.int p1), (.long q0), (.int (2 : Int32)), (.ref b1)]))
  refine OGo.st (fun _ k => XS.iload X5.here hx rfl (hb hby at_48) rfl k) ?_
  show OGo p e below s _ _ _ (T5.setTop (mkF m 50 #[.val (.long q0), .second, .val (.int p1), .val (.int p2), .val (.int p3), .val (.int p4), .val (.int (p2.toInt8.toInt32)), .val (.int (p3.toInt8.toInt32)), .val (.ref b1), .unset, .unset, .unset, .unset] [(.int (p2.toInt8.toInt32)), (.int (2 : Int32)), (.int p1), (.long q0), (.int (2 : Int32)), (.ref b1)]))
  refine OGo.st (fun _ k => XS.iload X5.here hx rfl (hb hby at_50) rfl k) ?_
  show OGo p e below s _ _ _ (T5.setTop (mkF m 52 #[.val (.long q0), .second, .val (.int p1), .val (.int p2), .val (.int p3), .val (.int p4), .val (.int (p2.toInt8.toInt32)), .val (.int (p3.toInt8.toInt32)), .val (.ref b1), .unset, .unset, .unset, .unset] [(.int (p3.toInt8.toInt32)), (.int (p2.toInt8.toInt32)), (.int (2 : Int32)), (.int p1), (.long q0), (.int (2 : Int32)), (.ref b1)]))
  obtain ⟨_, _, ⟨T6, L6, k6, n6⟩, -, X6, ⟨Lc6, hQ6, l6, y6, z6⟩, st6⟩ := Jvm.LawKit.callS X5 hx (y := (⟨"com/example/assaywire/assaywire/protocol/BytesIndexOfEitherPinLaw", "pick", "(JIIBB)B"⟩ : MethodName)) hown (mvT hZ (hw _ (List.mem_of_getElem? (i := 1) rfl))) (mvT hZ (hw _ (List.mem_of_getElem? (i := 2) rfl))) (mvT hZ (hw _ (List.mem_of_getElem? (i := 3) rfl))) (mvT hZ (hw _ (List.mem_of_getElem? (i := 4) rfl))) (by decide) (backOf (W := 2) (rm1 l Z a0 hw [] q0 p1 (2 : Int32) (p2.toInt8.toInt32) (p3.toInt8.toInt32) h5 n0 Z5) hZ (hw _ (List.mem_of_getElem? (i := 4) rfl)) (hw _ (List.mem_of_getElem? (i := 3) rfl)) (by decide) (by decide)) (g := (mkF m 52 #[.val (.long q0), .second, .val (.int p1), .val (.int p2), .val (.int p3), .val (.int p4), .val (.int (p2.toInt8.toInt32)), .val (.int (p3.toInt8.toInt32)), .val (.ref b1), .unset, .unset, .unset, .unset] [(.int (p3.toInt8.toInt32)), (.int (p2.toInt8.toInt32)), (.int (2 : Int32)), (.int p1), (.long q0), (.int (2 : Int32)), (.ref b1)])) rfl (by rw [hml]; rfl) (argsL := [(.long q0), (.int p1), (.int (2 : Int32)), (.int (p2.toInt8.toInt32)), (.int (p3.toInt8.toInt32))]) (rest := [(.int (2 : Int32)), (.ref b1)]) (lenOf pd_0_0 rfl) rfl (by show 2 * 0 + _ ≤ _; exact Nat.le_of_eq rfl) (hb hby at_52) (fun _ _ => ⟨rfl, e5, (by decide : 1 + 0 ≤ _), (by decide : 5 + 0 ≤ _)⟩)
  dsimp only [Pt.U, Pt.locs, Pt.cells, Pt.slots] at X6 l6 y6 z6 st6 hQ6
  subst l6 y6 z6
  obtain ⟨rfl, N6q, e6⟩ := hQ6
  have N6 := Fr.app N5 N6q
  refine OGo.st st6 ?_
  show OGo p e below s _ _ _ (T6.setTop (mkF m 55 #[.val (.long q0), .second, .val (.int p1), .val (.int p2), .val (.int p3), .val (.int p4), .val (.int (p2.toInt8.toInt32)), .val (.int (p3.toInt8.toInt32)), .val (.ref b1), .unset, .unset, .unset, .unset] [(.int (f1 q0 p1 (2 : Int32) (p2.toInt8.toInt32) (p3.toInt8.toInt32))), (.int (2 : Int32)), (.ref b1)]))
  obtain ⟨cl7, Ar7, q7, Sz7, Nn7, Hs7, Gs7⟩ := id V5
  have hin7 : ¬ ((2 : Int32) < 0 ∨ cl7.slots.size ≤ ((2 : Int32)).toNatClampNeg) := inb_of Sz7 ⟨by decide, by decide⟩
  obtain ⟨T7, h7, X7, e7, W7, st7⟩ := stB X6 hx hZ e6 Ar7 (j := (2 : Int32)) hin7 (g := (mkF m 55 #[.val (.long q0), .second, .val (.int p1), .val (.int p2), .val (.int p3), .val (.int p4), .val (.int (p2.toInt8.toInt32)), .val (.int (p3.toInt8.toInt32)), .val (.ref b1), .unset, .unset, .unset, .unset] [(.int (f1 q0 p1 (2 : Int32) (p2.toInt8.toInt32) (p3.toInt8.toInt32))), (.int (2 : Int32)), (.ref b1)])) rfl rfl (hb hby at_55)
  refine OGo.st st7 ?_
  have K7 : Keep h0 h7 [] := (K5).wr W7 (Or.inr sz_b1)
  have N7 := Fr.snoc X7 N6 g_b1
  have Z7 : n0 ≤ h7.size := Nat.le_trans Z5 (Keep.of_wr W7).1
  have V7 : Arv Z h7 b1 k1 .byte (5 : Int32) [(.int (nar .byte (f1 q0 p1 (0 : Int32) (p2.toInt8.toInt32) (p3.toInt8.toInt32)))), (.int (nar .byte (f1 q0 p1 (1 : Int32) (p2.toInt8.toInt32) (p3.toInt8.toInt32)))), (.int (nar .byte (f1 q0 p1 (2 : Int32) (p2.toInt8.toInt32) (p3.toInt8.toInt32)))), (.int (0 : Int32)), (.int (0 : Int32))] (.int (0 : Int32)) := Arv.set Ar7 q7 Sz7 Nn7 Hs7 Gs7 (fits_nar_byte _) W7 2 rfl (Nat.le_of_ble_eq_true rfl)
  show OGo p e below s _ _ _ (T7.setTop (mkF m 56 #[.val (.long q0), .second, .val (.int p1), .val (.int p2), .val (.int p3), .val (.int p4), .val (.int (p2.toInt8.toInt32)), .val (.int (p3.toInt8.toInt32)), .val (.ref b1), .unset, .unset, .unset, .unset] []))
  refine OGo.st (fun _ k => XS.aload X7.here hx rfl (hb hby at_56) rfl rfl k) ?_
  show OGo p e below s _ _ _ (T7.setTop (mkF m 58 #[.val (.long q0), .second, .val (.int p1), .val (.int p2), .val (.int p3), .val (.int p4), .val (.int (p2.toInt8.toInt32)), .val (.int (p3.toInt8.toInt32)), .val (.ref b1), .unset, .unset, .unset, .unset] [(.ref b1)]))
  refine OGo.st (fun _ k => XS.iconst X7.here hx rfl (hb hby at_58) k) ?_
  show OGo p e below s _ _ _ (T7.setTop (mkF m 59 #[.val (.long q0), .second, .val (.int p1), .val (.int p2), .val (.int p3), .val (.int p4), .val (.int (p2.toInt8.toInt32)), .val (.int (p3.toInt8.toInt32)), .val (.ref b1), .unset, .unset, .unset, .unset] [(.int (3 : Int32)), (.ref b1)]))
  refine OGo.st (fun _ k => XS.lloadN X7.here hx rfl (hb hby at_59) rfl k) ?_
  show OGo p e below s _ _ _ (T7.setTop (mkF m 60 #[.val (.long q0), .second, .val (.int p1), .val (.int p2), .val (.int p3), .val (.int p4), .val (.int (p2.toInt8.toInt32)), .val (.int (p3.toInt8.toInt32)), .val (.ref b1), .unset, .unset, .unset, .unset] [(.long q0), (.int (3 : Int32)), (.ref b1)]))
  refine OGo.st (fun _ k => XS.iloadN X7.here hx rfl (hb hby at_60) rfl k) ?_
  show OGo p e below s _ _ _ (T7.setTop (mkF m 61 #[.val (.long q0), .second, .val (.int p1), .val (.int p2), .val (.int p3), .val (.int p4), .val (.int (p2.toInt8.toInt32)), .val (.int (p3.toInt8.toInt32)), .val (.ref b1), .unset, .unset, .unset, .unset] [(.int p1), (.long q0), (.int (3 : Int32)), (.ref b1)]))
  refine OGo.st (fun _ k => XS.iconst X7.here hx rfl (hb hby at_61) k) ?_
  show OGo p e below s _ _ _ (T7.setTop (mkF m 62 #[.val (.long q0), .second, .val (.int p1), .val (.int p2), .val (.int p3), .val (.int p4), .val (.int (p2.toInt8.toInt32)), .val (.int (p3.toInt8.toInt32)), .val (.ref b1), .unset, .unset, .unset, .unset] [(.int (3 : Int32)), (.int p1), (.long q0), (.int (3 : Int32)), (.ref b1)]))
  refine OGo.st (fun _ k => XS.iload X7.here hx rfl (hb hby at_62) rfl k) ?_
  show OGo p e below s _ _ _ (T7.setTop (mkF m 64 #[.val (.long q0), .second, .val (.int p1), .val (.int p2), .val (.int p3), .val (.int p4), .val (.int (p2.toInt8.toInt32)), .val (.int (p3.toInt8.toInt32)), .val (.ref b1), .unset, .unset, .unset, .unset] [(.int (p2.toInt8.toInt32)), (.int (3 : Int32)), (.int p1), (.long q0), (.int (3 : Int32)), (.ref b1)]))
  refine OGo.st (fun _ k => XS.iload X7.here hx rfl (hb hby at_64) rfl k) ?_
  show OGo p e below s _ _ _ (T7.setTop (mkF m 66 #[.val (.long q0), .second, .val (.int p1), .val (.int p2), .val (.int p3), .val (.int p4), .val (.int (p2.toInt8.toInt32)), .val (.int (p3.toInt8.toInt32)), .val (.ref b1), .unset, .unset, .unset, .unset] [(.int (p3.toInt8.toInt32)), (.int (p2.toInt8.toInt32)), (.int (3 : Int32)), (.int p1), (.long q0), (.int (3 : Int32)), (.ref b1)]))
  obtain ⟨_, _, ⟨T8, L8, k8, n8⟩, -, X8, ⟨Lc8, hQ8, l8, y8, z8⟩, st8⟩ := Jvm.LawKit.callS X7 hx (y := (⟨"com/example/assaywire/assaywire/protocol/BytesIndexOfEitherPinLaw", "pick", "(JIIBB)B"⟩ : MethodName)) hown (mvT hZ (hw _ (List.mem_of_getElem? (i := 1) rfl))) (mvT hZ (hw _ (List.mem_of_getElem? (i := 2) rfl))) (mvT hZ (hw _ (List.mem_of_getElem? (i := 3) rfl))) (mvT hZ (hw _ (List.mem_of_getElem? (i := 4) rfl))) (by decide) (backOf (W := 2) (rm1 l Z a0 hw [] q0 p1 (3 : Int32) (p2.toInt8.toInt32) (p3.toInt8.toInt32) h7 n0 Z7) hZ (hw _ (List.mem_of_getElem? (i := 4) rfl)) (hw _ (List.mem_of_getElem? (i := 3) rfl)) (by decide) (by decide)) (g := (mkF m 66 #[.val (.long q0), .second, .val (.int p1), .val (.int p2), .val (.int p3), .val (.int p4), .val (.int (p2.toInt8.toInt32)), .val (.int (p3.toInt8.toInt32)), .val (.ref b1), .unset, .unset, .unset, .unset] [(.int (p3.toInt8.toInt32)), (.int (p2.toInt8.toInt32)), (.int (3 : Int32)), (.int p1), (.long q0), (.int (3 : Int32)), (.ref b1)])) rfl (by rw [hml]; rfl) (argsL := [(.long q0), (.int p1), (.int (3 : Int32)), (.int (p2.toInt8.toInt32)), (.int (p3.toInt8.toInt32))]) (rest := [(.int (3 : Int32)), (.ref b1)]) (lenOf pd_0_0 rfl) rfl (by show 2 * 0 + _ ≤ _; exact Nat.le_of_eq rfl) (hb hby at_66) (fun _ _ => ⟨rfl, e7, (by decide : 1 + 0 ≤ _), (by decide : 5 + 0 ≤ _)⟩)
  dsimp only [Pt.U, Pt.locs, Pt.cells, Pt.slots] at X8 l8 y8 z8 st8 hQ8
  subst l8 y8 z8
  obtain ⟨rfl, N8q, e8⟩ := hQ8
  have N8 := Fr.app N7 N8q
  refine OGo.st st8 ?_
  show OGo p e below s _ _ _ (T8.setTop (mkF m 69 #[.val (.long q0), .second, .val (.int p1), .val (.int p2), .val (.int p3), .val (.int p4), .val (.int (p2.toInt8.toInt32)), .val (.int (p3.toInt8.toInt32)), .val (.ref b1), .unset, .unset, .unset, .unset] [(.int (f1 q0 p1 (3 : Int32) (p2.toInt8.toInt32) (p3.toInt8.toInt32))), (.int (3 : Int32)), (.ref b1)]))
  obtain ⟨cl9, Ar9, q9, Sz9, Nn9, Hs9, Gs9⟩ := id V7
  have hin9 : ¬ ((3 : Int32) < 0 ∨ cl9.slots.size ≤ ((3 : Int32)).toNatClampNeg) := inb_of Sz9 ⟨by decide, by decide⟩
  obtain ⟨T9, h9, X9, e9, W9, st9⟩ := stB X8 hx hZ e8 Ar9 (j := (3 : Int32)) hin9 (g := (mkF m 69 #[.val (.long q0), .second, .val (.int p1), .val (.int p2), .val (.int p3), .val (.int p4), .val (.int (p2.toInt8.toInt32)), .val (.int (p3.toInt8.toInt32)), .val (.ref b1), .unset, .unset, .unset, .unset] [(.int (f1 q0 p1 (3 : Int32) (p2.toInt8.toInt32) (p3.toInt8.toInt32))), (.int (3 : Int32)), (.ref b1)])) rfl rfl (hb hby at_69)
  refine OGo.st st9 ?_
  have K9 : Keep h0 h9 [] := (K7).wr W9 (Or.inr sz_b1)
  have N9 := Fr.snoc X9 N8 g_b1
  have Z9 : n0 ≤ h9.size := Nat.le_trans Z7 (Keep.of_wr W9).1
  have V9 : Arv Z h9 b1 k1 .byte (5 : Int32) [(.int (nar .byte (f1 q0 p1 (0 : Int32) (p2.toInt8.toInt32) (p3.toInt8.toInt32)))), (.int (nar .byte (f1 q0 p1 (1 : Int32) (p2.toInt8.toInt32) (p3.toInt8.toInt32)))), (.int (nar .byte (f1 q0 p1 (2 : Int32) (p2.toInt8.toInt32) (p3.toInt8.toInt32)))), (.int (nar .byte (f1 q0 p1 (3 : Int32) (p2.toInt8.toInt32) (p3.toInt8.toInt32)))), (.int (0 : Int32))] (.int (0 : Int32)) := Arv.set Ar9 q9 Sz9 Nn9 Hs9 Gs9 (fits_nar_byte _) W9 3 rfl (Nat.le_of_ble_eq_true rfl)
  show OGo p e below s _ _ _ (T9.setTop (mkF m 70 #[.val (.long q0), .second, .val (.int p1), .val (.int p2), .val (.int p3), .val (.int p4), .val (.int (p2.toInt8.toInt32)), .val (.int (p3.toInt8.toInt32)), .val (.ref b1), .unset, .unset, .unset, .unset] []))
  refine OGo.st (fun _ k => XS.aload X9.here hx rfl (hb hby at_70) rfl rfl k) ?_
  show OGo p e below s _ _ _ (T9.setTop (mkF m 72 #[.val (.long q0), .second, .val (.int p1), .val (.int p2), .val (.int p3), .val (.int p4), .val (.int (p2.toInt8.toInt32)), .val (.int (p3.toInt8.toInt32)), .val (.ref b1), .unset, .unset, .unset, .unset] [(.ref b1)]))
  refine OGo.st (fun _ k => XS.iconst X9.here hx rfl (hb hby at_72) k) ?_
  show OGo p e below s _ _ _ (T9.setTop (mkF m 73 #[.val (.long q0), .second, .val (.int p1), .val (.int p2), .val (.int p3), .val (.int p4), .val (.int (p2.toInt8.toInt32)), .val (.int (p3.toInt8.toInt32)), .val (.ref b1), .unset, .unset, .unset, .unset] [(.int (4 : Int32)), (.ref b1)]))
  refine OGo.st (fun _ k => XS.lloadN X9.here hx rfl (hb hby at_73) rfl k) ?_
  show OGo p e below s _ _ _ (T9.setTop (mkF m 74 #[.val (.long q0), .second, .val (.int p1), .val (.int p2), .val (.int p3), .val (.int p4), .val (.int (p2.toInt8.toInt32)), .val (.int (p3.toInt8.toInt32)), .val (.ref b1), .unset, .unset, .unset, .unset] [(.long q0), (.int (4 : Int32)), (.ref b1)]))
  refine OGo.st (fun _ k => XS.iloadN X9.here hx rfl (hb hby at_74) rfl k) ?_
  show OGo p e below s _ _ _ (T9.setTop (mkF m 75 #[.val (.long q0), .second, .val (.int p1), .val (.int p2), .val (.int p3), .val (.int p4), .val (.int (p2.toInt8.toInt32)), .val (.int (p3.toInt8.toInt32)), .val (.ref b1), .unset, .unset, .unset, .unset] [(.int p1), (.long q0), (.int (4 : Int32)), (.ref b1)]))
  refine OGo.st (fun _ k => XS.iconst X9.here hx rfl (hb hby at_75) k) ?_
  show OGo p e below s _ _ _ (T9.setTop (mkF m 76 #[.val (.long q0), .second, .val (.int p1), .val (.int p2), .val (.int p3), .val (.int p4), .val (.int (p2.toInt8.toInt32)), .val (.int (p3.toInt8.toInt32)), .val (.ref b1), .unset, .unset, .unset, .unset] [(.int (4 : Int32)), (.int p1), (.long q0), (.int (4 : Int32)), (.ref b1)]))
  refine OGo.st (fun _ k => XS.iload X9.here hx rfl (hb hby at_76) rfl k) ?_
  show OGo p e below s _ _ _ (T9.setTop (mkF m 78 #[.val (.long q0), .second, .val (.int p1), .val (.int p2), .val (.int p3), .val (.int p4), .val (.int (p2.toInt8.toInt32)), .val (.int (p3.toInt8.toInt32)), .val (.ref b1), .unset, .unset, .unset, .unset] [(.int (p2.toInt8.toInt32)), (.int (4 : Int32)), (.int p1), (.long q0), (.int (4 : Int32)), (.ref b1)]))
  refine OGo.st (fun _ k => XS.iload X9.here hx rfl (hb hby at_78) rfl k) ?_
  show OGo p e below s _ _ _ (T9.setTop (mkF m 80 #[.val (.long q0), .second, .val (.int p1), .val (.int p2), .val (.int p3), .val (.int p4), .val (.int (p2.toInt8.toInt32)), .val (.int (p3.toInt8.toInt32)), .val (.ref b1), .unset, .unset, .unset, .unset] [(.int (p3.toInt8.toInt32)), (.int (p2.toInt8.toInt32)), (.int (4 : Int32)), (.int p1), (.long q0), (.int (4 : Int32)), (.ref b1)]))
  obtain ⟨_, _, ⟨T10, L10, k10, n10⟩, -, X10, ⟨Lc10, hQ10, l10, y10, z10⟩, st10⟩ := Jvm.LawKit.callS X9 hx (y := (⟨"com/example/assaywire/assaywire/protocol/BytesIndexOfEitherPinLaw", "pick", "(JIIBB)B"⟩ : MethodName)) hown (mvT hZ (hw _ (List.mem_of_getElem? (i := 1) rfl))) (mvT hZ (hw _ (List.mem_of_getElem? (i := 2) rfl))) (mvT hZ (hw _ (List.mem_of_getElem? (i := 3) rfl))) (mvT hZ (hw _ (List.mem_of_getElem? (i := 4) rfl))) (by decide) (backOf (W := 2) (rm1 l Z a0 hw [] q0 p1 (4 : Int32) (p2.toInt8.toInt32) (p3.toInt8.toInt32) h9 n0 Z9) hZ (hw _ (List.mem_of_getElem? (i := 4) rfl)) (hw _ (List.mem_of_getElem? (i := 3) rfl)) (by decide) (by decide)) (g := (mkF m 80 #[.val (.long q0), .second, .val (.int p1), .val (.int p2), .val (.int p3), .val (.int p4), .val (.int (p2.toInt8.toInt32)), .val (.int (p3.toInt8.toInt32)), .val (.ref b1), .unset, .unset, .unset, .unset] [(.int (p3.toInt8.toInt32)), (.int (p2.toInt8.toInt32)), (.int (4 : Int32)), (.int p1), (.long q0), (.int (4 : Int32)), (.ref b1)])) rfl (by rw [hml]; rfl) (argsL := [(.long q0), (.int p1), (.int (4 : Int32)), (.int (p2.toInt8.toInt32)), (.int (p3.toInt8.toInt32))]) (rest := [(.int (4 : Int32)), (.ref b1)]) (lenOf pd_0_0 rfl) rfl (by show 2 * 0 + _ ≤ _; exact Nat.le_of_eq rfl) (hb hby at_80) (fun _ _ => ⟨rfl, e9, (by decide : 1 + 0 ≤ _), (by decide : 5 + 0 ≤ _)⟩)
  dsimp only [Pt.U, Pt.locs, Pt.cells, Pt.slots] at X10 l10 y10 z10 st10 hQ10
  subst l10 y10 z10
  obtain ⟨rfl, N10q, e10⟩ := hQ10
  have N10 := Fr.app N9 N10q
  refine OGo.st st10 ?_
  show OGo p e below s _ _ _ (T10.setTop (mkF m 83 #[.val (.long q0), .second, .val (.int p1), .val (.int p2), .val (.int p3), .val (.int p4), .val (.int (p2.toInt8.toInt32)), .val (.int (p3.toInt8.toInt32)), .val (.ref b1), .unset, .unset, .unset, .unset] [(.int (f1 q0 p1 (4 : Int32) (p2.toInt8.toInt32) (p3.toInt8.toInt32))), (.int (4 : Int32)), (.ref b1)]))
  obtain ⟨cl11, Ar11, q11, Sz11, Nn11, Hs11, Gs11⟩ := id V9
  have hin11 : ¬ ((4 : Int32) < 0 ∨ cl11.slots.size ≤ ((4 : Int32)).toNatClampNeg) := inb_of Sz11 ⟨by decide, by decide⟩
  obtain ⟨T11, h11, X11, e11, W11, st11⟩ := stB X10 hx hZ e10 Ar11 (j := (4 : Int32)) hin11 (g := (mkF m 83 #[.val (.long q0), .second, .val (.int p1), .val (.int p2), .val (.int p3), .val (.int p4), .val (.int (p2.toInt8.toInt32)), .val (.int (p3.toInt8.toInt32)), .val (.ref b1), .unset, .unset, .unset, .unset] [(.int (f1 q0 p1 (4 : Int32) (p2.toInt8.toInt32) (p3.toInt8.toInt32))), (.int (4 : Int32)), (.ref b1)])) rfl rfl (hb hby at_83)
  refine OGo.st st11 ?_
  have K11 : Keep h0 h11 [] := (K9).wr W11 (Or.inr sz_b1)
  have N11 := Fr.snoc X11 N10 g_b1
  have Z11 : n0 ≤ h11.size := Nat.le_trans Z9 (Keep.of_wr W11).1
  have V11 : Arv Z h11 b1 k1 .byte (5 : Int32) [(.int (nar .byte (f1 q0 p1 (0 : Int32) (p2.toInt8.toInt32) (p3.toInt8.toInt32)))), (.int (nar .byte (f1 q0 p1 (1 : Int32) (p2.toInt8.toInt32) (p3.toInt8.toInt32)))), (.int (nar .byte (f1 q0 p1 (2 : Int32) (p2.toInt8.toInt32) (p3.toInt8.toInt32)))), (.int (nar .byte (f1 q0 p1 (3 : Int32) (p2.toInt8.toInt32) (p3.toInt8.toInt32)))), (.int (nar .byte (f1 q0 p1 (4 : Int32) (p2.toInt8.toInt32) (p3.toInt8.toInt32))))] (.int (0 : Int32)) := Arv.set Ar11 q11 Sz11 Nn11 Hs11 Gs11 (fits_nar_byte _) W11 4 rfl (Nat.le_of_ble_eq_true rfl)
  show OGo p e below s _ _ _ (T11.setTop (mkF m 84 #[.val (.long q0), .second, .val (.int p1), .val (.int p2), .val (.int p3), .val (.int p4), .val (.int (p2.toInt8.toInt32)), .val (.int (p3.toInt8.toInt32)), .val (.ref b1), .unset, .unset, .unset, .unset] []))
  refine OGo.st (fun _ k => XS.iload X11.here hx rfl (hb hby at_84) rfl k) ?_
  show OGo p e below s _ _ _ (T11.setTop (mkF m 86 #[.val (.long q0), .second, .val (.int p1), .val (.int p2), .val (.int p3), .val (.int p4), .val (.int (p2.toInt8.toInt32)), .val (.int (p3.toInt8.toInt32)), .val (.ref b1), .unset, .unset, .unset, .unset] [(.int p4)]))
  refine OGo.st (fun _ k => X11.ldcInt hx hown (mvT hZ (hw _ (List.mem_of_getElem? (i := 5) rfl))) (g := (mkF m 86 #[.val (.long q0), .second, .val (.int p1), .val (.int p2), .val (.int p3), .val (.int p4), .val (.int (p2.toInt8.toInt32)), .val (.int (p3.toInt8.toInt32)), .val (.ref b1), .unset, .unset, .unset, .unset] [(.int p4)])) rfl (hb hby at_86) _ k) ?_
  show OGo p e below s _ _ _ (T11.setTop (mkF m 88 #[.val (.long q0), .second, .val (.int p1), .val (.int p2), .val (.int p3), .val (.int p4), .val (.int (p2.toInt8.toInt32)), .val (.int (p3.toInt8.toInt32)), .val (.ref b1), .unset, .unset, .unset, .unset] [(.int (2147483647 : Int32)), (.int p4)]))
  refine OGo.st (fun _ k => XS.iand X11.here hx rfl (hb hby at_88) rfl k) ?_
  show OGo p e below s _ _ _ (T11.setTop (mkF m 89 #[.val (.long q0), .second, .val (.int p1), .val (.int p2), .val (.int p3), .val (.int p4), .val (.int (p2.toInt8.toInt32)), .val (.int (p3.toInt8.toInt32)), .val (.ref b1), .unset, .unset, .unset, .unset] [(.int (p4 &&& (2147483647 : Int32)))]))
  refine OGo.st (fun _ k => XS.bipush X11.here hx rfl (hb hby at_89) k) ?_
  show OGo p e below s _ _ _ (T11.setTop (mkF m 91 #[.val (.long q0), .second, .val (.int p1), .val (.int p2), .val (.int p3), .val (.int p4), .val (.int (p2.toInt8.toInt32)), .val (.int (p3.toInt8.toInt32)), .val (.ref b1), .unset, .unset, .unset, .unset] [(.int (6 : Int32)), (.int (p4 &&& (2147483647 : Int32)))]))
  refine OGo.st (fun _ k => iremM X11 hx rfl (hb hby at_91) rfl (by decide) k) ?_
  show OGo p e below s _ _ _ (T11.setTop (mkF m 92 #[.val (.long q0), .second, .val (.int p1), .val (.int p2), .val (.int p3), .val (.int p4), .val (.int (p2.toInt8.toInt32)), .val (.int (p3.toInt8.toInt32)), .val (.ref b1), .unset, .unset, .unset, .unset] [(.int ((p4 &&& (2147483647 : Int32)) % (6 : Int32)))]))
  refine OGo.st (fun _ k => XS.istore X11.here hx rfl (hb hby at_92) rfl (l' := #[.val (.long q0), .second, .val (.int p1), .val (.int p2), .val (.int p3), .val (.int p4), .val (.int (p2.toInt8.toInt32)), .val (.int (p3.toInt8.toInt32)), .val (.ref b1), .val (.int ((p4 &&& (2147483647 : Int32)) % (6 : Int32))), .unset, .unset, .unset]) rfl k) ?_
  show OGo p e below s _ _ _ (T11.setTop (mkF m 94 #[.val (.long q0), .second, .val (.int p1), .val (.int p2), .val (.int p3), .val (.int p4), .val (.int (p2.toInt8.toInt32)), .val (.int (p3.toInt8.toInt32)), .val (.ref b1), .val (.int ((p4 &&& (2147483647 : Int32)) % (6 : Int32))), .unset, .unset, .unset] []))
  refine OGo.st (fun _ k => XS.iload X11.here hx rfl (hb hby at_94) rfl k) ?_
  show OGo p e below s _ _ _ (T11.setTop (mkF m 96 #[.val (.long q0), .second, .val (.int p1), .val (.int p2), .val (.int p3), .val (.int p4), .val (.int (p2.toInt8.toInt32)), .val (.int (p3.toInt8.toInt32)), .val (.ref b1), .val (.int ((p4 &&& (2147483647 : Int32)) % (6 : Int32))), .unset, .unset, .unset] [(.int p4)]))
  refine OGo.st (fun _ k => XS.bipush X11.here hx rfl (hb hby at_96) k) ?_
  show OGo p e below s _ _ _ (T11.setTop (mkF m 98 #[.val (.long q0), .second, .val (.int p1), .val (.int p2), .val (.int p3), .val (.int p4), .val (.int (p2.toInt8.toInt32)), .val (.int (p3.toInt8.toInt32)), .val (.ref b1), .val (.int ((p4 &&& (2147483647 : Int32)) % (6 : Int32))), .unset, .unset, .unset] [(.int (8 : Int32)), (.int p4)]))
  refine OGo.st (fun _ k => XS.iushr X11.here hx rfl (hb hby at_98) rfl k) ?_
  show OGo p e below s _ _ _ (T11.setTop (mkF m 99 #[.val (.long q0), .second, .val (.int p1), .val (.int p2), .val (.int p3), .val (.int p4), .val (.int (p2.toInt8.toInt32)), .val (.int (p3.toInt8.toInt32)), .val (.ref b1), .val (.int ((p4 &&& (2147483647 : Int32)) % (6 : Int32))), .unset, .unset, .unset] [(.int ((p4.toUInt32 >>> ((8 : Int32) &&& 31).toUInt32).toInt32))]))
  refine OGo.st (fun _ k => X11.ldcInt hx hown (mvT hZ (hw _ (List.mem_of_getElem? (i := 5) rfl))) (g := (mkF m 99 #[.val (.long q0), .second, .val (.int p1), .val (.int p2), .val (.int p3), .val (.int p4), .val (.int (p2.toInt8.toInt32)), .val (.int (p3.toInt8.toInt32)), .val (.ref b1), .val (.int ((p4 &&& (2147483647 : Int32)) % (6 : Int32))), .unset, .unset, .unset] [(.int ((p4.toUInt32 >>> ((8 : Int32) &&& 31).toUInt32).toInt32))])) rfl (hb hby at_99) _ k) ?_
  show OGo p e below s _ _ _ (T11.setTop (mkF m 101 #[.val (.long q0), .second, .val (.int p1), .val (.int p2), .val (.int p3), .val (.int p4), .val (.int (p2.toInt8.toInt32)), .val (.int (p3.toInt8.toInt32)), .val (.ref b1), .val (.int ((p4 &&& (2147483647 : Int32)) % (6 : Int32))), .unset, .unset, .unset] [(.int (2147483647 : Int32)), (.int ((p4.toUInt32 >>> ((8 : Int32) &&& 31).toUInt32).toInt32))]))
  refine OGo.st (fun _ k => XS.iand X11.here hx rfl (hb hby at_101) rfl k) ?_
  show OGo p e below s _ _ _ (T11.setTop (mkF m 102 #[.val (.long q0), .second, .val (.int p1), .val (.int p2), .val (.int p3), .val (.int p4), .val (.int (p2.toInt8.toInt32)), .val (.int (p3.toInt8.toInt32)), .val (.ref b1), .val (.int ((p4 &&& (2147483647 : Int32)) % (6 : Int32))), .unset, .unset, .unset] [(.int (((p4.toUInt32 >>> ((8 : Int32) &&& 31).toUInt32).toInt32) &&& (2147483647 : Int32)))]))
  refine OGo.st (fun _ k => XS.bipush X11.here hx rfl (hb hby at_102) k) ?_
  show OGo p e below s _ _ _ (T11.setTop (mkF m 104 #[.val (.long q0), .second, .val (.int p1), .val (.int p2), .val (.int p3), .val (.int p4), .val (.int (p2.toInt8.toInt32)), .val (.int (p3.toInt8.toInt32)), .val (.ref b1), .val (.int ((p4 &&& (2147483647 : Int32)) % (6 : Int32))), .unset, .unset, .unset] [(.int (6 : Int32)), (.int (((p4.toUInt32 >>> ((8 : Int32) &&& 31).toUInt32).toInt32) &&& (2147483647 : Int32)))]))
  refine OGo.st (fun _ k => iremM X11 hx rfl (hb hby at_104) rfl (by decide) k) ?_
  show OGo p e below s _ _ _ (T11.setTop (mkF m 105 #[.val (.long q0), .second, .val (.int p1), .val (.int p2), .val (.int p3), .val (.int p4), .val (.int (p2.toInt8.toInt32)), .val (.int (p3.toInt8.toInt32)), .val (.ref b1), .val (.int ((p4 &&& (2147483647 : Int32)) % (6 : Int32))), .unset, .unset, .unset] [(.int ((((p4.toUInt32 >>> ((8 : Int32) &&& 31).toUInt32).toInt32) &&& (2147483647 : Int32)) % (6 : Int32)))]))
  refine OGo.st (fun _ k => XS.istore X11.here hx rfl (hb hby at_105) rfl (l' := #[.val (.long q0), .second, .val (.int p1), .val (.int p2), .val (.int p3), .val (.int p4), .val (.int (p2.toInt8.toInt32)), .val (.int (p3.toInt8.toInt32)), .val (.ref b1), .val (.int ((p4 &&& (2147483647 : Int32)) % (6 : Int32))), .val (.int (v0_0 q0 p1 p2 p3 p4)), .unset, .unset]) rfl k) ?_
  show OGo p e below s _ _ _ (T11.setTop (mkF m 107 #[.val (.long q0), .second, .val (.int p1), .val (.int p2), .val (.int p3), .val (.int p4), .val (.int (p2.toInt8.toInt32)), .val (.int (p3.toInt8.toInt32)), .val (.ref b1), .val (.int ((p4 &&& (2147483647 : Int32)) % (6 : Int32))), .val (.int (v0_0 q0 p1 p2 p3 p4)), .unset, .unset] []))
  refine OGo.st (fun _ k => XS.aload X11.here hx rfl (hb hby at_107) rfl rfl k) ?_
  show OGo p e below s _ _ _ (T11.setTop (mkF m 109 #[.val (.long q0), .second, .val (.int p1), .val (.int p2), .val (.int p3), .val (.int p4), .val (.int (p2.toInt8.toInt32)), .val (.int (p3.toInt8.toInt32)), .val (.ref b1), .val (.int ((p4 &&& (2147483647 : Int32)) % (6 : Int32))), .val (.int (v0_0 q0 p1 p2 p3 p4)), .unset, .unset] [(.ref b1)]))
  refine OGo.st (fun _ k => XS.iload X11.here hx rfl (hb hby at_109) rfl k) ?_
  show OGo p e below s _ _ _ (T11.setTop (mkF m 111 #[.val (.long q0), .second, .val (.int p1), .val (.int p2), .val (.int p3), .val (.int p4), .val (.int (p2.toInt8.toInt32)), .val (.int (p3.toInt8.toInt32)), .val (.ref b1), .val (.int ((p4 &&& (2147483647 : Int32)) % (6 : Int32))), .val (.int (v0_0 q0 p1 p2 p3 p4)), .unset, .unset] [(.int (p2.toInt8.toInt32)), (.ref b1)]))
  refine OGo.st (fun _ k => XS.iload X11.here hx rfl (hb hby at_111) rfl k) ?_
  show OGo p e below s _ _ _ (T11.setTop (mkF m 113 #[.val (.long q0), .second, .val (.int p1), .val (.int p2), .val (.int p3), .val (.int p4), .val (.int (p2.toInt8.toInt32)), .val (.int (p3.toInt8.toInt32)), .val (.ref b1), .val (.int ((p4 &&& (2147483647 : Int32)) % (6 : Int32))), .val (.int (v0_0 q0 p1 p2 p3 p4)), .unset, .unset] [(.int (p3.toInt8.toInt32)), (.int (p2.toInt8.toInt32)), (.ref b1)]))
  refine OGo.st (fun _ k => XS.iload X11.here hx rfl (hb hby at_113) rfl k) ?_
  show OGo p e below s _ _ _ (T11.setTop (mkF m 115 #[.val (.long q0), .second, .val (.int p1), .val (.int p2), .val (.int p3), .val (.int p4), .val (.int (p2.toInt8.toInt32)), .val (.int (p3.toInt8.toInt32)), .val (.ref b1), .val (.int ((p4 &&& (2147483647 : Int32)) % (6 : Int32))), .val (.int (v0_0 q0 p1 p2 p3 p4)), .unset, .unset] [(.int ((p4 &&& (2147483647 : Int32)) % (6 : Int32))), (.int (p3.toInt8.toInt32)), (.int (p2.toInt8.toInt32)), (.ref b1)]))
  refine OGo.st (fun _ k => XS.iload X11.here hx rfl (hb hby at_115) rfl k) ?_
  show OGo p e below s _ _ _ (T11.setTop (mkF m 117 #[.val (.long q0), .second, .val (.int p1), .val (.int p2), .val (.int p3), .val (.int p4), .val (.int (p2.toInt8.toInt32)), .val (.int (p3.toInt8.toInt32)), .val (.ref b1), .val (.int ((p4 &&& (2147483647 : Int32)) % (6 : Int32))), .val (.int (v0_0 q0 p1 p2 p3 p4)), .unset, .unset] [(.int (v0_0 q0 p1 p2 p3 p4)), (.int ((p4 &&& (2147483647 : Int32)) % (6 : Int32))), (.int (p3.toInt8.toInt32)), (.int (p2.toInt8.toInt32)), (.ref b1)]))
  obtain ⟨_, _, ⟨T12, L12, k12, n12⟩, -, X12, ⟨Lc12, hQ12, l12, y12, z12⟩, st12⟩ := Jvm.LawKit.callS X11 hx (y := (⟨"com/example/assaywire/assaywire/protocol/Bytes", "indexOfEither", "([BBBII)I"⟩ : MethodName)) hown (mvT hZ (hw _ (List.mem_of_getElem? (i := 6) rfl))) (mvT hZ (hw _ (List.mem_of_getElem? (i := 7) rfl))) (mvT hZ (hw _ (List.mem_of_getElem? (i := 8) rfl))) (mvT hZ (hw _ (List.mem_of_getElem? (i := 9) rfl))) (by decide) (backOf (W := 0) (rm2 l Z a0 hw [] b1 (p2.toInt8.toInt32) (p3.toInt8.toInt32) ((p4 &&& (2147483647 : Int32)) % (6 : Int32)) (v0_0 q0 p1 p2 p3 p4) k1 (nar .byte (f1 q0 p1 (0 : Int32) (p2.toInt8.toInt32) (p3.toInt8.toInt32))) (nar .byte (f1 q0 p1 (1 : Int32) (p2.toInt8.toInt32) (p3.toInt8.toInt32))) (nar .byte (f1 q0 p1 (2 : Int32) (p2.toInt8.toInt32) (p3.toInt8.toInt32))) (nar .byte (f1 q0 p1 (3 : Int32) (p2.toInt8.toInt32) (p3.toInt8.toInt32))) (nar .byte (f1 q0 p1 (4 : Int32) (p2.toInt8.toInt32) (p3.toInt8.toInt32))) h11 n0 Z11 V11 (own_from _) (own_to _)) hZ (hw _ (List.mem_of_getElem? (i := 9) rfl)) (hw _ (List.mem_of_getElem? (i := 8) rfl)) (by decide) (by decide)) (g := (mkF m 117 #[.val (.long q0), .second, .val (.int p1), .val (.int p2), .val (.int p3), .val (.int p4), .val (.int (p2.toInt8.toInt32)), .val (.int (p3.toInt8.toInt32)), .val (.ref b1), .val (.int ((p4 &&& (2147483647 : Int32)) % (6 : Int32))), .val (.int (v0_0 q0 p1 p2 p3 p4)), .unset, .unset] [(.int (v0_0 q0 p1 p2 p3 p4)), (.int ((p4 &&& (2147483647 : Int32)) % (6 : Int32))), (.int (p3.toInt8.toInt32)), (.int (p2.toInt8.toInt32)), (.ref b1)])) rfl (by rw [hml]; rfl) (argsL := [(.ref b1), (.int (p2.toInt8.toInt32)), (.int (p3.toInt8.toInt32)), (.int ((p4 &&& (2147483647 : Int32)) % (6 : Int32))), (.int (v0_0 q0 p1 p2 p3 p4))]) (rest := []) (lenOf pd_0_1 rfl) rfl (by show 2 * 0 + _ ≤ _; exact Nat.le_of_eq rfl) (hb hby at_117) (fun _ _ => ⟨rfl, e11, (by decide : 1 + 0 ≤ _), (by decide : 5 + 0 ≤ _)⟩)
  dsimp only [Pt.U, Pt.locs, Pt.cells, Pt.slots] at X12 l12 y12 z12 st12 hQ12
  subst l12 y12 z12
  obtain ⟨rfl, N12q, e12⟩ := hQ12
  have N12 := Fr.app N11 N12q
  refine OGo.st st12 ?_
  show OGo p e below s _ _ _ (T12.setTop (mkF m 120 #[.val (.long q0), .second, .val (.int p1), .val (.int p2), .val (.int p3), .val (.int p4), .val (.int (p2.toInt8.toInt32)), .val (.int (p3.toInt8.toInt32)), .val (.ref b1), .val (.int ((p4 &&& (2147483647 : Int32)) % (6 : Int32))), .val (.int (v0_0 q0 p1 p2 p3 p4)), .unset, .unset] [(.int (f2 (p2.toInt8.toInt32) (p3.toInt8.toInt32) ((p4 &&& (2147483647 : Int32)) % (6 : Int32)) (v0_0 q0 p1 p2 p3 p4) (nar .byte (f1 q0 p1 (0 : Int32) (p2.toInt8.toInt32) (p3.toInt8.toInt32))) (nar .byte (f1 q0 p1 (1 : Int32) (p2.toInt8.toInt32) (p3.toInt8.toInt32))) (nar .byte (f1 q0 p1 (2 : Int32) (p2.toInt8.toInt32) (p3.toInt8.toInt32))) (nar .byte (f1 q0 p1 (3 : Int32) (p2.toInt8.toInt32) (p3.toInt8.toInt32))) (nar .byte (f1 q0 p1 (4 : Int32) (p2.toInt8.toInt32) (p3.toInt8.toInt32)))))]))
  refine OGo.st (fun _ k => XS.istore X12.here hx rfl (hb hby at_120) rfl (l' := #[.val (.long q0), .second, .val (.int p1), .val (.int p2), .val (.int p3), .val (.int p4), .val (.int (p2.toInt8.toInt32)), .val (.int (p3.toInt8.toInt32)), .val (.ref b1), .val (.int ((p4 &&& (2147483647 : Int32)) % (6 : Int32))), .val (.int (v0_0 q0 p1 p2 p3 p4)), .val (.int (v0_1 q0 p1 p2 p3 p4)), .unset]) rfl k) ?_
  show OGo p e below s _ _ _ (T12.setTop (mkF m 122 #[.val (.long q0), .second, .val (.int p1), .val (.int p2), .val (.int p3), .val (.int p4), .val (.int (p2.toInt8.toInt32)), .val (.int (p3.toInt8.toInt32)), .val (.ref b1), .val (.int ((p4 &&& (2147483647 : Int32)) % (6 : Int32))), .val (.int (v0_0 q0 p1 p2 p3 p4)), .val (.int (v0_1 q0 p1 p2 p3 p4)), .unset] []))
  refine OGo.st (fun _ k => XS.iconst X12.here hx rfl (hb hby at_122) k) ?_
  show OGo p e below s _ _ _ (T12.setTop (mkF m 123 #[.val (.long q0), .second, .val (.int p1), .val (.int p2), .val (.int p3), .val (.int p4), .val (.int (p2.toInt8.toInt32)), .val (.int (p3.toInt8.toInt32)), .val (.ref b1), .val (.int ((p4 &&& (2147483647 : Int32)) % (6 : Int32))), .val (.int (v0_0 q0 p1 p2 p3 p4)), .val (.int (v0_1 q0 p1 p2 p3 p4)), .unset] [(.int (-1 : Int32))]))
  refine OGo.st (fun _ k => XS.istore X12.here hx rfl (hb hby at_123) rfl (l' := #[.val (.long q0), .second, .val (.int p1), .val (.int p2), .val (.int p3), .val (.int p4), .val (.int (p2.toInt8.toInt32)), .val (.int (p3.toInt8.toInt32)), .val (.ref b1), .val (.int ((p4 &&& (2147483647 : Int32)) % (6 : Int32))), .val (.int (v0_0 q0 p1 p2 p3 p4)), .val (.int (v0_1 q0 p1 p2 p3 p4)), .val (.int (-1 : Int32))]) rfl k) ?_
  show OGo p e below s _ _ _ (T12.setTop (mkF m 125 #[.val (.long q0), .second, .val (.int p1), .val (.int p2), .val (.int p3), .val (.int p4), .val (.int (p2.toInt8.toInt32)), .val (.int (p3.toInt8.toInt32)), .val (.ref b1), .val (.int ((p4 &&& (2147483647 : Int32)) % (6 : Int32))), .val (.int (v0_0 q0 p1 p2 p3 p4)), .val (.int (v0_1 q0 p1 p2 p3 p4)), .val (.int (-1 : Int32))] []))
  refine OGo.st (fun _ k => XS.aload X12.here hx rfl (hb hby at_125) rfl rfl k) ?_
  show OGo p e below s _ _ _ (T12.setTop (mkF m 127 #[.val (.long q0), .second, .val (.int p1), .val (.int p2), .val (.int p3), .val (.int p4), .val (.int (p2.toInt8.toInt32)), .val (.int (p3.toInt8.toInt32)), .val (.ref b1), .val (.int ((p4 &&& (2147483647 : Int32)) % (6 : Int32))), .val (.int (v0_0 q0 p1 p2 p3 p4)), .val (.int (v0_1 q0 p1 p2 p3 p4)), .val (.int (-1 : Int32))] [(.ref b1)]))
  refine OGo.st (fun _ k => XS.iconst X12.here hx rfl (hb hby at_127) k) ?_
  show OGo p e below s _ _ _ (T12.setTop (mkF m 128 #[.val (.long q0), .second, .val (.int p1), .val (.int p2), .val (.int p3), .val (.int p4), .val (.int (p2.toInt8.toInt32)), .val (.int (p3.toInt8.toInt32)), .val (.ref b1), .val (.int ((p4 &&& (2147483647 : Int32)) % (6 : Int32))), .val (.int (v0_0 q0 p1 p2 p3 p4)), .val (.int (v0_1 q0 p1 p2 p3 p4)), .val (.int (-1 : Int32))] [(.int (0 : Int32)), (.ref b1)]))
  refine OGo.st (fun _ k => XS.iload X12.here hx rfl (hb hby at_128) rfl k) ?_
  show OGo p e below s _ _ _ (T12.setTop (mkF m 130 #[.val (.long q0), .second, .val (.int p1), .val (.int p2), .val (.int p3), .val (.int p4), .val (.int (p2.toInt8.toInt32)), .val (.int (p3.toInt8.toInt32)), .val (.ref b1), .val (.int ((p4 &&& (2147483647 : Int32)) % (6 : Int32))), .val (.int (v0_0 q0 p1 p2 p3 p4)), .val (.int (v0_1 q0 p1 p2 p3 p4)), .val (.int (-1 : Int32))] [(.int (p2.toInt8.toInt32)), (.int (0 : Int32)), (.ref b1)]))
  refine OGo.st (fun _ k => XS.iload X12.here hx rfl (hb hby at_130) rfl k) ?_
  show OGo p e below s _ _ _ (T12.setTop (mkF m 132 #[.val (.long q0), .second, .val (.int p1), .val (.int p2), .val (.int p3), .val (.int p4), .val (.int (p2.toInt8.toInt32)), .val (.int (p3.toInt8.toInt32)), .val (.ref b1), .val (.int ((p4 &&& (2147483647 : Int32)) % (6 : Int32))), .val (.int (v0_0 q0 p1 p2 p3 p4)), .val (.int (v0_1 q0 p1 p2 p3 p4)), .val (.int (-1 : Int32))] [(.int (p3.toInt8.toInt32)), (.int (p2.toInt8.toInt32)), (.int (0 : Int32)), (.ref b1)]))
  refine OGo.st (fun _ k => XS.iload X12.here hx rfl (hb hby at_132) rfl k) ?_
  show OGo p e below s _ _ _ (T12.setTop (mkF m 134 #[.val (.long q0), .second, .val (.int p1), .val (.int p2), .val (.int p3), .val (.int p4), .val (.int (p2.toInt8.toInt32)), .val (.int (p3.toInt8.toInt32)), .val (.ref b1), .val (.int ((p4 &&& (2147483647 : Int32)) % (6 : Int32))), .val (.int (v0_0 q0 p1 p2 p3 p4)), .val (.int (v0_1 q0 p1 p2 p3 p4)), .val (.int (-1 : Int32))] [(.int ((p4 &&& (2147483647 : Int32)) % (6 : Int32))), (.int (p3.toInt8.toInt32)), (.int (p2.toInt8.toInt32)), (.int (0 : Int32)), (.ref b1)]))
  refine OGo.st (fun _ k => XS.iload X12.here hx rfl (hb hby at_134) rfl k) ?_
  show OGo p e below s _ _ _ (T12.setTop (mkF m 136 #[.val (.long q0), .second, .val (.int p1), .val (.int p2), .val (.int p3), .val (.int p4), .val (.int (p2.toInt8.toInt32)), .val (.int (p3.toInt8.toInt32)), .val (.ref b1), .val (.int ((p4 &&& (2147483647 : Int32)) % (6 : Int32))), .val (.int (v0_0 q0 p1 p2 p3 p4)), .val (.int (v0_1 q0 p1 p2 p3 p4)), .val (.int (-1 : Int32))] [(.int (v0_0 q0 p1 p2 p3 p4)), (.int ((p4 &&& (2147483647 : Int32)) % (6 : Int32))), (.int (p3.toInt8.toInt32)), (.int (p2.toInt8.toInt32)), (.int (0 : Int32)), (.ref b1)]))
  obtain ⟨_, _, ⟨T13, L13, k13, n13⟩, -, X13, ⟨Lc13, hQ13, l13, y13, z13⟩, st13⟩ := Jvm.LawKit.callS X12 hx (y := (⟨"com/example/assaywire/assaywire/protocol/BytesIndexOfEitherPinLaw", "hit", "([BIBBII)Z"⟩ : MethodName)) hown (mvT hZ (hw _ (List.mem_of_getElem? (i := 10) rfl))) (mvT hZ (hw _ (List.mem_of_getElem? (i := 11) rfl))) (mvT hZ (hw _ (List.mem_of_getElem? (i := 3) rfl))) (mvT hZ (hw _ (List.mem_of_getElem? (i := 12) rfl))) (by decide) (backOf (W := 0) (rm3L0 l Z a0 hw [] b1 (p2.toInt8.toInt32) (p3.toInt8.toInt32) ((p4 &&& (2147483647 : Int32)) % (6 : Int32)) (v0_0 q0 p1 p2 p3 p4) k1 (nar .byte (f1 q0 p1 (0 : Int32) (p2.toInt8.toInt32) (p3.toInt8.toInt32))) (nar .byte (f1 q0 p1 (1 : Int32) (p2.toInt8.toInt32) (p3.toInt8.toInt32))) (nar .byte (f1 q0 p1 (2 : Int32) (p2.toInt8.toInt32) (p3.toInt8.toInt32))) (nar .byte (f1 q0 p1 (3 : Int32) (p2.toInt8.toInt32) (p3.toInt8.toInt32))) (nar .byte (f1 q0 p1 (4 : Int32) (p2.toInt8.toInt32) (p3.toInt8.toInt32))) h11 n0 Z11 V11) hZ (hw _ (List.mem_of_getElem? (i := 12) rfl)) (hw _ (List.mem_of_getElem? (i := 3) rfl)) (by decide) (by decide)) (g := (mkF m 136 #[.val (.long q0), .second, .val (.int p1), .val (.int p2), .val (.int p3), .val (.int p4), .val (.int (p2.toInt8.toInt32)), .val (.int (p3.toInt8.toInt32)), .val (.ref b1), .val (.int ((p4 &&& (2147483647 : Int32)) % (6 : Int32))), .val (.int (v0_0 q0 p1 p2 p3 p4)), .val (.int (v0_1 q0 p1 p2 p3 p4)), .val (.int (-1 : Int32))] [(.int (v0_0 q0 p1 p2 p3 p4)), (.int ((p4 &&& (2147483647 : Int32)) % (6 : Int32))), (.int (p3.toInt8.toInt32)), (.int (p2.toInt8.toInt32)), (.int (0 : Int32)), (.ref b1)])) rfl (by rw [hml]; rfl) (argsL := [(.ref b1), (.int (0 : Int32)), (.int (p2.toInt8.toInt32)), (.int (p3.toInt8.toInt32)), (.int ((p4 &&& (2147483647 : Int32)) % (6 : Int32))), (.int (v0_0 q0 p1 p2 p3 p4))]) (rest := []) (lenOf pd_0_2 rfl) rfl (by show 2 * 0 + _ ≤ _; exact Nat.le_of_eq rfl) (hb hby at_136) (fun _ _ => ⟨rfl, e12, (by decide : 1 + 0 ≤ _), (by decide : 5 + 0 ≤ _)⟩)
  dsimp only [Pt.U, Pt.locs, Pt.cells, Pt.slots] at X13 l13 y13 z13 st13 hQ13
  subst l13 y13 z13
  obtain ⟨rfl, N13q, e13⟩ := hQ13
  have N13 := Fr.app N12 N13q
  refine OGo.st st13 ?_
  show OGo p e below s _ _ _ (T13.setTop (mkF m 139 #[.val (.long q0), .second, .val (.int p1), .val (.int p2), .val (.int p3), .val (.int p4), .val (.int (p2.toInt8.toInt32)), .val (.int (p3.toInt8.toInt32)), .val (.ref b1), .val (.int ((p4 &&& (2147483647 : Int32)) % (6 : Int32))), .val (.int (v0_0 q0 p1 p2 p3 p4)), .val (.int (v0_1 q0 p1 p2 p3 p4)), .val (.int (-1 : Int32))] [(.int (f3L0 (p2.toInt8.toInt32) (p3.toInt8.toInt32) ((p4 &&& (2147483647 : Int32)) % (6 : Int32)) (v0_0 q0 p1 p2 p3 p4) (nar .byte (f1 q0 p1 (0 : Int32) (p2.toInt8.toInt32) (p3.toInt8.toInt32)))))]))
  have hj237 : ∀ (T14 : State) (L14 : List Loc) (X14 : Stand p l e room_1 s m #[(.long q0), (.int p1), (.int p2), (.int p3), (.int p4)] below meth c T14 L14 1 5) (e14 : T14.heap = h11) (N14 : Fr n0 L14) (j237_0 : Int32) (hf237_0 : f0 q0 p1 p2 p3 p4 = f0_237 q0 p1 p2 p3 p4 j237_0), OGo p e below s (Q0 Z q0 p1 p2 p3 p4 h0 n0) room_1.cells room_1.slots (T14.setTop (mkF m 237 #[.val (.long q0), .second, .val (.int p1), .val (.int p2), .val (.int p3), .val (.int p4), .val (.int (p2.toInt8.toInt32)), .val (.int (p3.toInt8.toInt32)), .val (.ref b1), .val (.int ((p4 &&& (2147483647 : Int32)) % (6 : Int32))), .val (.int (v0_0 q0 p1 p2 p3 p4)), .val (.int (v0_1 q0 p1 p2 p3 p4)), .val (.int j237_0)] [])) := by
    intro T14 L14 X14 e14 N14 j237_0 hf237_0
    refine OGo.st (fun _ k => XS.iload X14.here hx rfl (hb hby at_237) rfl k) ?_
    show OGo p e below s _ _ _ (T14.setTop (mkF m 239 #[.val (.long q0), .second, .val (.int p1), .val (.int p2), .val (.int p3), .val (.int p4), .val (.int (p2.toInt8.toInt32)), .val (.int (p3.toInt8.toInt32)), .val (.ref b1), .val (.int ((p4 &&& (2147483647 : Int32)) % (6 : Int32))), .val (.int (v0_0 q0 p1 p2 p3 p4)), .val (.int (v0_1 q0 p1 p2 p3 p4)), .val (.int j237_0)] [(.int (v0_1 q0 p1 p2 p3 p4))]))
    refine OGo.st (fun _ k => XS.iload X14.here hx rfl (hb hby at_239) rfl k) ?_
    show OGo p e below s _ _ _ (T14.setTop (mkF m 241 #[.val (.long q0), .second, .val (.int p1), .val (.int p2), .val (.int p3), .val (.int p4), .val (.int (p2.toInt8.toInt32)), .val (.int (p3.toInt8.toInt32)), .val (.ref b1), .val (.int ((p4 &&& (2147483647 : Int32)) % (6 : Int32))), .val (.int (v0_0 q0 p1 p2 p3 p4)), .val (.int (v0_1 q0 p1 p2 p3 p4)), .val (.int j237_0)] [(.int j237_0), (.int (v0_1 q0 p1 p2 p3 p4))]))
    by_cases hc241 : (v0_1 q0 p1 p2 p3 p4) = j237_0
    · refine OGo.st (fun _ k => XS.icmpNo X14.here hx rfl (hb hby at_241) rfl (teq hc241).2 k) ?_
      show OGo p e below s _ _ _ (T14.setTop (mkF m 244 #[.val (.long q0), .second, .val (.int p1), .val (.int p2), .val (.int p3), .val (.int p4), .val (.int (p2.toInt8.toInt32)), .val (.int (p3.toInt8.toInt32)), .val (.ref b1), .val (.int ((p4 &&& (2147483647 : Int32)) % (6 : Int32))), .val (.int (v0_0 q0 p1 p2 p3 p4)), .val (.int (v0_1 q0 p1 p2 p3 p4)), .val (.int j237_0)] []))
      refine OGo.st (fun _ k => XS.iconst X14.here hx rfl (hb hby at_244) k) ?_
      show OGo p e below s _ _ _ (T14.setTop (mkF m 245 #[.val (.long q0), .second, .val (.int p1), .val (.int p2), .val (.int p3), .val (.int p4), .val (.int (p2.toInt8.toInt32)), .val (.int (p3.toInt8.toInt32)), .val (.ref b1), .val (.int ((p4 &&& (2147483647 : Int32)) % (6 : Int32))), .val (.int (v0_0 q0 p1 p2 p3 p4)), .val (.int (v0_1 q0 p1 p2 p3 p4)), .val (.int j237_0)] [(.int (1 : Int32))]))
      refine OGo.st (fun _ k => XS.goto X14.here hx rfl (pc0 := 245) (pc' := 249) rfl (hb hby at_245) (by decide) (by decide) k) ?_
      show OGo p e below s _ _ _ (T14.setTop (mkF m 249 #[.val (.long q0), .second, .val (.int p1), .val (.int p2), .val (.int p3), .val (.int p4), .val (.int (p2.toInt8.toInt32)), .val (.int (p3.toInt8.toInt32)), .val (.ref b1), .val (.int ((p4 &&& (2147483647 : Int32)) % (6 : Int32))), .val (.int (v0_0 q0 p1 p2 p3 p4)), .val (.int (v0_1 q0 p1 p2 p3 p4)), .val (.int j237_0)] [(.int (1 : Int32))]))
      exact oretN X14 hx Bd.notSynchronized (t := .boolean) Bd.returns (by simp) (hb hby at_249) (z' := (1 : Int32)) (by decide) e14 ⟨(congrArg (fun z => some (Value.int z)) (show (1 : Int32) = f0 q0 p1 p2 p3 p4 from Eq.symm (hf237_0.trans (by unfold f0_237; exact if_pos hc241)))), N14⟩ (by decide) (by decide)
    · refine OGo.st (fun _ k => XS.icmpYes X14.here hx rfl (pc0 := 241) (pc' := 248) rfl (hb hby at_241) rfl (feq hc241).2 (by decide) (by decide) k) ?_
      show OGo p e below s _ _ _ (T14.setTop (mkF m 248 #[.val (.long q0), .second, .val (.int p1), .val (.int p2), .val (.int p3), .val (.int p4), .val (.int (p2.toInt8.toInt32)), .val (.int (p3.toInt8.toInt32)), .val (.ref b1), .val (.int ((p4 &&& (2147483647 : Int32)) % (6 : Int32))), .val (.int (v0_0 q0 p1 p2 p3 p4)), .val (.int (v0_1 q0 p1 p2 p3 p4)), .val (.int j237_0)] []))
      refine OGo.st (fun _ k => XS.iconst X14.here hx rfl (hb hby at_248) k) ?_
      show OGo p e below s _ _ _ (T14.setTop (mkF m 249 #[.val (.long q0), .second, .val (.int p1), .val (.int p2), .val (.int p3), .val (.int p4), .val (.int (p2.toInt8.toInt32)), .val (.int (p3.toInt8.toInt32)), .val (.ref b1), .val (.int ((p4 &&& (2147483647 : Int32)) % (6 : Int32))), .val (.int (v0_0 q0 p1 p2 p3 p4)), .val (.int (v0_1 q0 p1 p2 p3 p4)), .val (.int j237_0)] [(.int (0 : Int32))]))
      exact oretN X14 hx Bd.notSynchronized (t := .boolean) Bd.returns (by simp) (hb hby at_249) (z' := (0 : Int32)) (by decide) e14 ⟨(congrArg (fun z => some (Value.int z)) (show (0 : Int32) = f0 q0 p1 p2 p3 p4 from Eq.symm (hf237_0.trans (by unfold f0_237; exact if_neg hc241)))), N14⟩ (by decide) (by decide)
  by_cases hc139 : (f3L0 (p2.toInt8.toInt32) (p3.toInt8.toInt32) ((p4 &&& (2147483647 : Int32)) % (6 : Int32)) (v0_0 q0 p1 p2 p3 p4) (nar .byte (f1 q0 p1 (0 : Int32) (p2.toInt8.toInt32) (p3.toInt8.toInt32)))) = (0 : Int32)
  · refine OGo.st (fun _ k => XS.ifYes X13.here hx rfl (pc0 := 139) (pc' := 148) rfl (hb hby at_139) rfl ((if0 _ _).trans (teq hc139).1) (by decide) (by decide) k) ?_
    show OGo p e below s _ _ _ (T13.setTop (mkF m 148 #[.val (.long q0), .second, .val (.int p1), .val (.int p2), .val (.int p3), .val (.int p4), .val (.int (p2.toInt8.toInt32)), .val (.int (p3.toInt8.toInt32)), .val (.ref b1), .val (.int ((p4 &&& (2147483647 : Int32)) % (6 : Int32))), .val (.int (v0_0 q0 p1 p2 p3 p4)), .val (.int (v0_1 q0 p1 p2 p3 p4)), .val (.int (-1 : Int32))] []))
    refine OGo.st (fun _ k => XS.aload X13.here hx rfl (hb hby at_148) rfl rfl k) ?_
    show OGo p e below s _ _ _ (T13.setTop (mkF m 150 #[.val (.long q0), .second, .val (.int p1), .val (.int p2), .val (.int p3), .val (.int p4), .val (.int (p2.toInt8.toInt32)), .val (.int (p3.toInt8.toInt32)), .val (.ref b1), .val (.int ((p4 &&& (2147483647 : Int32)) % (6 : Int32))), .val (.int (v0_0 q0 p1 p2 p3 p4)), .val (.int (v0_1 q0 p1 p2 p3 p4)), .val (.int (-1 : Int32))] [(.ref b1)]))
    refine OGo.st (fun _ k => XS.iconst X13.here hx rfl (hb hby at_150) k) ?_
    show OGo p e below s _ _ _ (T13.setTop (mkF m 151 #[.val (.long q0), .second, .val (.int p1), .val (.int p2), .val (.int p3), .val (.int p4), .val (.int (p2.toInt8.toInt32)), .val (.int (p3.toInt8.toInt32)), .val (.ref b1), .val (.int ((p4 &&& (2147483647 : Int32)) % (6 : Int32))), .val (.int (v0_0 q0 p1 p2 p3 p4)), .val (.int (v0_1 q0 p1 p2 p3 p4)), .val (.int (-1 : Int32))] [(.int (1 : Int32)), (.ref b1)]))
    refine OGo.st (fun _ k => XS.iload X13.here hx rfl (hb hby at_151) rfl k) ?_
    show OGo p e below s _ _ _ (T13.setTop (mkF m 153 #[.val (.long q0), .second, .val (.int p1), .val (.int p2), .val (.int p3), .val (.int p4), .val (.int (p2.toInt8.toInt32)), .val (.int (p3.toInt8.toInt32)), .val (.ref b1), .val (.int ((p4 &&& (2147483647 : Int32)) % (6 : Int32))), .val (.int (v0_0 q0 p1 p2 p3 p4)), .val (.int (v0_1 q0 p1 p2 p3 p4)), .val (.int (-1 : Int32))] [(.int (p2.toInt8.toInt32)), (.int (1 : Int32)), (.ref b1)]))
    refine OGo.st (fun _ k => XS.iload X13.here hx rfl (hb hby at_153) rfl k) ?_
    show OGo p e below s _ _ _ (T13.setTop (mkF m 155 #[.val (.long q0), .second, .val (.int p1), .val (.int p2), .val (.int p3), .val (.int p4), .val (.int (p2.toInt8.toInt32)), .val (.int (p3.toInt8.toInt32)), .val (.ref b1), .val (.int ((p4 &&& (2147483647 : Int32)) % (6 : Int32))), .val (.int (v0_0 q0 p1 p2 p3 p4)), .val (.int (v0_1 q0 p1 p2 p3 p4)), .val (.int (-1 : Int32))] [(.int (p3.toInt8.toInt32)), (.int (p2.toInt8.toInt32)), (.int (1 : Int32)), (.ref b1)]))
    refine OGo.st (fun _ k => XS.iload X13.here hx rfl (hb hby at_155) rfl k) ?_
    show OGo p e below s _ _ _ (T13.setTop (mkF m 157 #[.val (.long q0), .second, .val (.int p1), .val (.int p2), .val (.int p3), .val (.int p4), .val (.int (p2.toInt8.toInt32)), .val (.int (p3.toInt8.toInt32)), .val (.ref b1), .val (.int ((p4 &&& (2147483647 : Int32)) % (6 : Int32))), .val (.int (v0_0 q0 p1 p2 p3 p4)), .val (.int (v0_1 q0 p1 p2 p3 p4)), .val (.int (-1 : Int32))] [(.int ((p4 &&& (2147483647 : Int32)) % (6 : Int32))), (.int (p3.toInt8.toInt32)), (.int (p2.toInt8.toInt32)), (.int (1 : Int32)), (.ref b1)]))
    refine OGo.st (fun _ k => XS.iload X13.here hx rfl (hb hby at_157) rfl k) ?_
    show OGo p e below s _ _ _ (T13.setTop (mkF m 159 #[.val (.long q0), .second, .val (.int p1), .val (.int p2), .val (.int p3), .val (.int p4), .val (.int (p2.toInt8.toInt32)), .val (.int (p3.toInt8.toInt32)), .val (.ref b1), .val (.int ((p4 &&& (2147483647 : Int32)) % (6 : Int32))), .val (.int (v0_0 q0 p1 p2 p3 p4)), .val (.int (v0_1 q0 p1 p2 p3 p4)), .val (.int (-1 : Int32))] [(.int (v0_0 q0 p1 p2 p3 p4)), (.int ((p4 &&& (2147483647 : Int32)) % (6 : Int32))), (.int (p3.toInt8.toInt32)), (.int (p2.toInt8.toInt32)), (.int (1 : Int32)), (.ref b1)]))
    obtain ⟨_, _, ⟨T15, L15, k15, n15⟩, -, X15, ⟨Lc15, hQ15, l15, y15, z15⟩, st15⟩ := Jvm.LawKit.callS X13 hx (y := (⟨"com/example/assaywire/assaywire/protocol/BytesIndexOfEitherPinLaw", "hit", "([BIBBII)Z"⟩ : MethodName)) hown (mvT hZ (hw _ (List.mem_of_getElem? (i := 10) rfl))) (mvT hZ (hw _ (List.mem_of_getElem? (i := 11) rfl))) (mvT hZ (hw _ (List.mem_of_getElem? (i := 3) rfl))) (mvT hZ (hw _ (List.mem_of_getElem? (i := 12) rfl))) (by decide) (backOf (W := 0) (rm3L1 l Z a0 hw [] b1 (p2.toInt8.toInt32) (p3.toInt8.toInt32) ((p4 &&& (2147483647 : Int32)) % (6 : Int32)) (v0_0 q0 p1 p2 p3 p4) k1 (nar .byte (f1 q0 p1 (0 : Int32) (p2.toInt8.toInt32) (p3.toInt8.toInt32))) (nar .byte (f1 q0 p1 (1 : Int32) (p2.toInt8.toInt32) (p3.toInt8.toInt32))) (nar .byte (f1 q0 p1 (2 : Int32) (p2.toInt8.toInt32) (p3.toInt8.toInt32))) (nar .byte (f1 q0 p1 (3 : Int32) (p2.toInt8.toInt32) (p3.toInt8.toInt32))) (nar .byte (f1 q0 p1 (4 : Int32) (p2.toInt8.toInt32) (p3.toInt8.toInt32))) h11 n0 Z11 V11) hZ (hw _ (List.mem_of_getElem? (i := 12) rfl)) (hw _ (List.mem_of_getElem? (i := 3) rfl)) (by decide) (by decide)) (g := (mkF m 159 #[.val (.long q0), .second, .val (.int p1), .val (.int p2), .val (.int p3), .val (.int p4), .val (.int (p2.toInt8.toInt32)), .val (.int (p3.toInt8.toInt32)), .val (.ref b1), .val (.int ((p4 &&& (2147483647 : Int32)) % (6 : Int32))), .val (.int (v0_0 q0 p1 p2 p3 p4)), .val (.int (v0_1 q0 p1 p2 p3 p4)), .val (.int (-1 : Int32))] [(.int (v0_0 q0 p1 p2 p3 p4)), (.int ((p4 &&& (2147483647 : Int32)) % (6 : Int32))), (.int (p3.toInt8.toInt32)), (.int (p2.toInt8.toInt32)), (.int (1 : Int32)), (.ref b1)])) rfl (by rw [hml]; rfl) (argsL := [(.ref b1), (.int (1 : Int32)), (.int (p2.toInt8.toInt32)), (.int (p3.toInt8.toInt32)), (.int ((p4 &&& (2147483647 : Int32)) % (6 : Int32))), (.int (v0_0 q0 p1 p2 p3 p4))]) (rest := []) (lenOf pd_0_2 rfl) rfl (by show 2 * 0 + _ ≤ _; exact Nat.le_of_eq rfl) (hb hby at_159) (fun _ _ => ⟨rfl, e13, (by decide : 1 + 0 ≤ _), (by decide : 5 + 0 ≤ _)⟩)
    dsimp only [Pt.U, Pt.locs, Pt.cells, Pt.slots] at X15 l15 y15 z15 st15 hQ15
    subst l15 y15 z15
    obtain ⟨rfl, N15q, e15⟩ := hQ15
    have N15 := Fr.app N13 N15q
    refine OGo.st st15 ?_
    show OGo p e below s _ _ _ (T15.setTop (mkF m 162 #[.val (.long q0), .second, .val (.int p1), .val (.int p2), .val (.int p3), .val (.int p4), .val (.int (p2.toInt8.toInt32)), .val (.int (p3.toInt8.toInt32)), .val (.ref b1), .val (.int ((p4 &&& (2147483647 : Int32)) % (6 : Int32))), .val (.int (v0_0 q0 p1 p2 p3 p4)), .val (.int (v0_1 q0 p1 p2 p3 p4)), .val (.int (-1 : Int32))] [(.int (f3L1 (p2.toInt8.toInt32) (p3.toInt8.toInt32) ((p4 &&& (2147483647 : Int32)) % (6 : Int32)) (v0_0 q0 p1 p2 p3 p4) (nar .byte (f1 q0 p1 (1 : Int32) (p2.toInt8.toInt32) (p3.toInt8.toInt32)))))]))
    by_cases hc162 : (f3L1 (p2.toInt8.toInt32) (p3.toInt8.toInt32) ((p4 &&& (2147483647 : Int32)) % (6 : Int32)) (v0_0 q0 p1 p2 p3 p4) (nar .byte (f1 q0 p1 (1 : Int32) (p2.toInt8.toInt32) (p3.toInt8.toInt32)))) = (0 : Int32)
    · refine OGo.st (fun _ k => XS.ifYes X15.here hx rfl (pc0 := 162) (pc' := 171) rfl (hb hby at_162) rfl ((if0 _ _).trans (teq hc162).1) (by decide) (by decide) k) ?_
      show OGo p e below s _ _ _ (T15.setTop (mkF m 171 #[.val (.long q0), .second, .val (.int p1), .val (.int p2), .val (.int p3), .val (.int p4), .val (.int (p2.toInt8.toInt32)), .val (.int (p3.toInt8.toInt32)), .val (.ref b1), .val (.int ((p4 &&& (2147483647 : Int32)) % (6 : Int32))), .val (.int (v0_0 q0 p1 p2 p3 p4)), .val (.int (v0_1 q0 p1 p2 p3 p4)), .val (.int (-1 : Int32))] []))
      refine OGo.st (fun _ k => XS.aload X15.here hx rfl (hb hby at_171) rfl rfl k) ?_
      show OGo p e below s _ _ _ (T15.setTop (mkF m 173 #[.val (.long q0), .second, .val (.int p1), .val (.int p2), .val (.int p3), .val (.int p4), .val (.int (p2.toInt8.toInt32)), .val (.int (p3.toInt8.toInt32)), .val (.ref b1), .val (.int ((p4 &&& (2147483647 : Int32)) % (6 : Int32))), .val (.int (v0_0 q0 p1 p2 p3 p4)), .val (.int (v0_1 q0 p1 p2 p3 p4)), .val (.int (-1 : Int32))] [(.ref b1)]))
      refine OGo.st (fun _ k => XS.iconst X15.here hx rfl (hb hby at_173) k) ?_
      show OGo p e below s _ _ _ (T15.setTop (mkF m 174 #[.val (.long q0), .second, .val (.int p1), .val (.int p2), .val (.int p3), .val (.int p4), .val (.int (p2.toInt8.toInt32)), .val (.int (p3.toInt8.toInt32)), .val (.ref b1), .val (.int ((p4 &&& (2147483647 : Int32)) % (6 : Int32))), .val (.int (v0_0 q0 p1 p2 p3 p4)), .val (.int (v0_1 q0 p1 p2 p3 p4)), .val (.int (-1 : Int32))] [(.int (2 : Int32)), (.ref b1)]))
      refine OGo.st (fun _ k => XS.iload X15.here hx rfl (hb hby at_174) rfl k) ?_
      show OGo p e below s _ _ _ (T15.setTop (mkF m 176 #[.val (.long q0), .second, .val (.int p1), .val (.int p2), .val (.int p3), .val (.int p4), .val (.int (p2.toInt8.toInt32)), .val (.int (p3.toInt8.toInt32)), .val (.ref b1), .val (.int ((p4 &&& (2147483647 : Int32)) % (6 : Int32))), .val (.int (v0_0 q0 p1 p2 p3 p4)), .val (.int (v0_1 q0 p1 p2 p3 p4)), .val (.int (-1 : Int32))] [(.int (p2.toInt8.toInt32)), (.int (2 : Int32)), (.ref b1)]))
      refine OGo.st (fun _ k => XS.iload X15.here hx rfl (hb hby at_176) rfl k) ?_
      show OGo p e below s _ _ _ (T15.setTop (mkF m 178 #[.val (.long q0), .second, .val (.int p1), .val (.int p2), .val (.int p3), .val (.int p4), .val (.int (p2.toInt8.toInt32)), .val (.int (p3.toInt8.toInt32)), .val (.ref b1), .val (.int ((p4 &&& (2147483647 : Int32)) % (6 : Int32))), .val (.int (v0_0 q0 p1 p2 p3 p4)), .val (.int (v0_1 q0 p1 p2 p3 p4)), .val (.int (-1 : Int32))] [(.int (p3.toInt8.toInt32)), (.int (p2.toInt8.toInt32)), (.int (2 : Int32)), (.ref b1)]))
      refine OGo.st (fun _ k => XS.iload X15.here hx rfl (hb hby at_178) rfl k) ?_
      show OGo p e below s _ _ _ (T15.setTop (mkF m 180 #[.val (.long q0), .second, .val (.int p1), .val (.int p2), .val (.int p3), .val (.int p4), .val (.int (p2.toInt8.toInt32)), .val (.int (p3.toInt8.toInt32)), .val (.ref b1), .val (.int ((p4 &&& (2147483647 : Int32)) % (6 : Int32))), .val (.int (v0_0 q0 p1 p2 p3 p4)), .val (.int (v0_1 q0 p1 p2 p3 p4)), .val (.int (-1 : Int32))] [(.int ((p4 &&& (2147483647 : Int32)) % (6 : Int32))), (.int (p3.toInt8.toInt32)), (.int (p2.toInt8.toInt32)), (.int (2 : Int32)), (.ref b1)]))
      refine OGo.st (fun _ k => XS.iload X15.here hx rfl (hb hby at_180) rfl k) ?_
      show OGo p e below s _ _ _ (T15.setTop (mkF m 182 #[.val (.long q0), .second, .val (.int p1), .val (.int p2), .val (.int p3), .val (.int p4), .val (.int (p2.toInt8.toInt32)), .val (.int (p3.toInt8.toInt32)), .val (.ref b1), .val (.int ((p4 &&& (2147483647 : Int32)) % (6 : Int32))), .val (.int (v0_0 q0 p1 p2 p3 p4)), .val (.int (v0_1 q0 p1 p2 p3 p4)), .val (.int (-1 : Int32))] [(.int (v0_0 q0 p1 p2 p3 p4)), (.int ((p4 &&& (2147483647 : Int32)) % (6 : Int32))), (.int (p3.toInt8.toInt32)), (.int (p2.toInt8.toInt32)), (.int (2 : Int32)), (.ref b1)]))
      obtain ⟨_, _, ⟨T16, L16, k16, n16⟩, -, X16, ⟨Lc16, hQ16, l16, y16, z16⟩, st16⟩ := Jvm.LawKit.callS X15 hx (y := (⟨"com/example/assaywire/assaywire/protocol/BytesIndexOfEitherPinLaw", "hit", "([BIBBII)Z"⟩ : MethodName)) hown (mvT hZ (hw _ (List.mem_of_getElem? (i := 10) rfl))) (mvT hZ (hw _ (List.mem_of_getElem? (i := 11) rfl))) (mvT hZ (hw _ (List.mem_of_getElem? (i := 3) rfl))) (mvT hZ (hw _ (List.mem_of_getElem? (i := 12) rfl))) (by decide) (backOf (W := 0) (rm3L2 l Z a0 hw [] b1 (p2.toInt8.toInt32) (p3.toInt8.toInt32) ((p4 &&& (2147483647 : Int32)) % (6 : Int32)) (v0_0 q0 p1 p2 p3 p4) k1 (nar .byte (f1 q0 p1 (0 : Int32) (p2.toInt8.toInt32) (p3.toInt8.toInt32))) (nar .byte (f1 q0 p1 (1 : Int32) (p2.toInt8.toInt32) (p3.toInt8.toInt32))) (nar .byte (f1 q0 p1 (2 : Int32) (p2.toInt8.toInt32) (p3.toInt8.toInt32))) (nar .byte (f1 q0 p1 (3 : Int32) (p2.toInt8.toInt32) (p3.toInt8.toInt32))) (nar .byte (f1 q0 p1 (4 : Int32) (p2.toInt8.toInt32) (p3.toInt8.toInt32))) h11 n0 Z11 V11) hZ (hw _ (List.mem_of_getElem? (i := 12) rfl)) (hw _ (List.mem_of_getElem? (i := 3) rfl)) (by decide) (by decide)) (g := (mkF m 182 #[.val (.long q0), .second, .val (.int p1), .val (.int p2), .val (.int p3), .val (.int p4), .val (.int (p2.toInt8.toInt32)), .val (.int (p3.toInt8.toInt32)), .val (.ref b1), .val (.int ((p4 &&& (2147483647 : Int32)) % (6 : Int32))), .val (.int (v0_0 q0 p1 p2 p3 p4)), .val (.int (v0_1 q0 p1 p2 p3 p4)), .val (.int (-1 : Int32))] [(.int (v0_0 q0 p1 p2 p3 p4)), (.int ((p4 &&& (2147483647 : Int32)) % (6 : Int32))), (.int (p3.toInt8.toInt32)), (.int (p2.toInt8.toInt32)), (.int (2 : Int32)), (.ref b1)])) rfl (by rw [hml]; rfl) (argsL := [(.ref b1), (.int (2 : Int32)), (.int (p2.toInt8.toInt32)), (.int (p3.toInt8.toInt32)), (.int ((p4 &&& (2147483647 : Int32)) % (6 : Int32))), (.int (v0_0 q0 p1 p2 p3 p4))]) (rest := []) (lenOf pd_0_2 rfl) rfl (by show 2 * 0 + _ ≤ _; exact Nat.le_of_eq rfl) (hb hby at_182) (fun _ _ => ⟨rfl, e15, (by decide : 1 + 0 ≤ _), (by decide : 5 + 0 ≤ _)⟩)
      dsimp only [Pt.U, Pt.locs, Pt.cells, Pt.slots] at X16 l16 y16 z16 st16 hQ16
      subst l16 y16 z16
      obtain ⟨rfl, N16q, e16⟩ := hQ16
      have N16 := Fr.app N15 N16q
      refine OGo.st st16 ?_
      show OGo p e below s _ _ _ (T16.setTop (mkF m 185 #[.val (.long q0), .second, .val (.int p1), .val (.int p2), .val (.int p3), .val (.int p4), .val (.int (p2.toInt8.toInt32)), .val (.int (p3.toInt8.toInt32)), .val (.ref b1), .val (.int ((p4 &&& (2147483647 : Int32)) % (6 : Int32))), .val (.int (v0_0 q0 p1 p2 p3 p4)), .val (.int (v0_1 q0 p1 p2 p3 p4)), .val (.int (-1 : Int32))] [(.int (f3L2 (p2.toInt8.toInt32) (p3.toInt8.toInt32) ((p4 &&& (2147483647 : Int32)) % (6 : Int32)) (v0_0 q0 p1 p2 p3 p4) (nar .byte (f1 q0 p1 (2 : Int32) (p2.toInt8.toInt32) (p3.toInt8.toInt32)))))]))
      by_cases hc185 : (f3L2 (p2.toInt8.toInt32) (p3.toInt8.toInt32) ((p4 &&& (2147483647 : Int32)) % (6 : Int32)) (v0_0 q0 p1 p2 p3 p4) (nar .byte (f1 q0 p1 (2 : Int32) (p2.toInt8.toInt32) (p3.toInt8.toInt32)))) = (0 : Int32)
      · refine OGo.st (fun _ k => XS.ifYes X16.here hx rfl (pc0 := 185) (pc' := 194) rfl (hb hby at_185) rfl ((if0 _ _).trans (teq hc185).1) (by decide) (by decide) k) ?_
        show OGo p e below s _ _ _ (T16.setTop (mkF m 194 #[.val (.long q0), .second, .val (.int p1), .val (.int p2), .val (.int p3), .val (.int p4), .val (.int (p2.toInt8.toInt32)), .val (.int (p3.toInt8.toInt32)), .val (.ref b1), .val (.int ((p4 &&& (2147483647 : Int32)) % (6 : Int32))), .val (.int (v0_0 q0 p1 p2 p3 p4)), .val (.int (v0_1 q0 p1 p2 p3 p4)), .val (.int (-1 : Int32))] []))
        refine OGo.st (fun _ k => XS.aload X16.here hx rfl (hb hby at_194) rfl rfl k) ?_
        show OGo p e below s _ _ _ (T16.setTop (mkF m 196 #[.val (.long q0), .second, .val (.int p1), .val (.int p2), .val (.int p3), .val (.int p4), .val (.int (p2.toInt8.toInt32)), .val (.int (p3.toInt8.toInt32)), .val (.ref b1), .val (.int ((p4 &&& (2147483647 : Int32)) % (6 : Int32))), .val (.int (v0_0 q0 p1 p2 p3 p4)), .val (.int (v0_1 q0 p1 p2 p3 p4)), .val (.int (-1 : Int32))] [(.ref b1)]))
        refine OGo.st (fun _ k => XS.iconst X16.here hx rfl (hb hby at_196) k) ?_
        show OGo p e below s _ _ _ (T16.setTop (mkF m 197 #[.val (.long q0), .second, .val (.int p1), .val (.int p2), .val (.int p3), .val (.int p4), .val (.int (p2.toInt8.toInt32)), .val (.int (p3.toInt8.toInt32)), .val (.ref b1), .val (.int ((p4 &&& (2147483647 : Int32)) % (6 : Int32))), .val (.int (v0_0 q0 p1 p2 p3 p4)), .val (.int (v0_1 q0 p1 p2 p3 p4)), .val (.int (-1 : Int32))] [(.int (3 : Int32)), (.ref b1)]))
        refine OGo.st (fun _ k => XS.iload X16.here hx rfl (hb hby at_197) rfl k) ?_
        show OGo p e below s _ _ _ (T16.setTop (mkF m 199 #[.val (.long q0), .second, .val (.int p1), .val (.int p2), .val (.int p3), .val (.int p4), .val (.int (p2.toInt8.toInt32)), .val (.int (p3.toInt8.toInt32)), .val (.ref b1), .val (.int ((p4 &&& (2147483647 : Int32)) % (6 : Int32))), .val (.int (v0_0 q0 p1 p2 p3 p4)), .val (.int (v0_1 q0 p1 p2 p3 p4)), .val (.int (-1 : Int32))] [(.int (p2.toInt8.toInt32)), (.int (3 : Int32)), (.ref b1)]))
        refine OGo.st (fun _ k => XS.iload X16.here hx rfl (hb hby at_199) rfl k) ?_
        show OGo p e below s _ _ _ (T16.setTop (mkF m 201 #[.val (.long q0), .second, .val (.int p1), .val (.int p2), .val (.int p3), .val (.int p4), .val (.int (p2.toInt8.toInt32)), .val (.int (p3.toInt8.toInt32)), .val (.ref b1), .val (.int ((p4 &&& (2147483647 : Int32)) % (6 : Int32))), .val (.int (v0_0 q0 p1 p2 p3 p4)), .val (.int (v0_1 q0 p1 p2 p3 p4)), .val (.int (-1 : Int32))] [(.int (p3.toInt8.toInt32)), (.int (p2.toInt8.toInt32)), (.int (3 : Int32)), (.ref b1)]))
        refine OGo.st (fun _ k => XS.iload X16.here hx rfl (hb hby at_201) rfl k) ?_
        show OGo p e below s _ _ _ (T16.setTop (mkF m 203 #[.val (.long q0), .second, .val (.int p1), .val (.int p2), .val (.int p3), .val (.int p4), .val (.int (p2.toInt8.toInt32)), .val (.int (p3.toInt8.toInt32)), .val (.ref b1), .val (.int ((p4 &&& (2147483647 : Int32)) % (6 : Int32))), .val (.int (v0_0 q0 p1 p2 p3 p4)), .val (.int (v0_1 q0 p1 p2 p3 p4)), .val (.int (-1 : Int32))] [(.int ((p4 &&& (2147483647 : Int32)) % (6 : Int32))), (.int (p3.toInt8.toInt32)), (.int (p2.toInt8.toInt32)), (.int (3 : Int32)), (.ref b1)]))
        refine OGo.st (fun _ k => XS.iload X16.here hx rfl (hb hby at_203) rfl k) ?_
        show OGo p e below s _ _ _ (T16.setTop (mkF m 205 #[.val (.long q0), .second, .val (.int p1), .val (.int p2), .val (.int p3), .val (.int p4), .val (.int (p2.toInt8.toInt32)), .val (.int (p3.toInt8.toInt32)), .val (.ref b1), .val (.int ((p4 &&& (2147483647 : Int32)) % (6 : Int32))), .val (.int (v0_0 q0 p1 p2 p3 p4)), .val (.int (v0_1 q0 p1 p2 p3 p4)), .val (.int (-1 : Int32))] [(.int (v0_0 q0 p1 p2 p3 p4)), (.int ((p4 &&& (2147483647 : Int32)) % (6 : Int32))), (.int (p3.toInt8.toInt32)), (.int (p2.toInt8.toInt32)), (.int (3 : Int32)), (.ref b1)]))
        obtain ⟨_, _, ⟨T17, L17, k17, n17⟩, -, X17, ⟨Lc17, hQ17, l17, y17, z17⟩, st17⟩ := Jvm.LawKit.callS X16 hx (y := (⟨"com/example/assaywire/assaywire/protocol/BytesIndexOfEitherPinLaw", "hit", "([BIBBII)Z"⟩ : MethodName)) hown (mvT hZ (hw _ (List.mem_of_getElem? (i := 10) rfl))) (mvT hZ (hw _ (List.mem_of_getElem? (i := 11) rfl))) (mvT hZ (hw _ (List.mem_of_getElem? (i := 3) rfl))) (mvT hZ (hw _ (List.mem_of_getElem? (i := 12) rfl))) (by decide) (backOf (W := 0) (rm3L3 l Z a0 hw [] b1 (p2.toInt8.toInt32) (p3.toInt8.toInt32) ((p4 &&& (2147483647 : Int32)) % (6 : Int32)) (v0_0 q0 p1 p2 p3 p4) k1 (nar .byte (f1 q0 p1 (0 : Int32) (p2.toInt8.toInt32) (p3.toInt8.toInt32))) (nar .byte (f1 q0 p1 (1 : Int32) (p2.toInt8.toInt32) (p3.toInt8.toInt32))) (nar .byte (f1 q0 p1 (2 : Int32) (p2.toInt8.toInt32) (p3.toInt8.toInt32))) (nar .byte (f1 q0 p1 (3 : Int32) (p2.toInt8.toInt32) (p3.toInt8.toInt32))) (nar .byte (f1 q0 p1 (4 : Int32) (p2.toInt8.toInt32) (p3.toInt8.toInt32))) h11 n0 Z11 V11) hZ (hw _ (List.mem_of_getElem? (i := 12) rfl)) (hw _ (List.mem_of_getElem? (i := 3) rfl)) (by decide) (by decide)) (g := (mkF m 205 #[.val (.long q0), .second, .val (.int p1), .val (.int p2), .val (.int p3), .val (.int p4), .val (.int (p2.toInt8.toInt32)), .val (.int (p3.toInt8.toInt32)), .val (.ref b1), .val (.int ((p4 &&& (2147483647 : Int32)) % (6 : Int32))), .val (.int (v0_0 q0 p1 p2 p3 p4)), .val (.int (v0_1 q0 p1 p2 p3 p4)), .val (.int (-1 : Int32))] [(.int (v0_0 q0 p1 p2 p3 p4)), (.int ((p4 &&& (2147483647 : Int32)) % (6 : Int32))), (.int (p3.toInt8.toInt32)), (.int (p2.toInt8.toInt32)), (.int (3 : Int32)), (.ref b1)])) rfl (by rw [hml]; rfl) (argsL := [(.ref b1), (.int (3 : Int32)), (.int (p2.toInt8.toInt32)), (.int (p3.toInt8.toInt32)), (.int ((p4 &&& (2147483647 : Int32)) % (6 : Int32))), (.int (v0_0 q0 p1 p2 p3 p4))]) (rest := []) (lenOf pd_0_2 rfl) rfl (by show 2 * 0 + _ ≤ _; exact Nat.le_of_eq rfl) (hb hby at_205) (fun _ _ => ⟨rfl, e16, (by decide : 1 + 0 ≤ _), (by decide : 5 + 0 ≤ _)⟩)
        dsimp only [Pt.U, Pt.locs, Pt.cells, Pt.slots] at X17 l17 y17 z17 st17 hQ17
        subst l17 y17 z17
        obtain ⟨rfl, N17q, e17⟩ := hQ17
        have N17 := Fr.app N16 N17q
        refine OGo.st st17 ?_
        show OGo p e below s _ _ _ (T17.setTop (mkF m 208 #[.val (.long q0), .second, .val (.int p1), .val (.int p2), .val (.int p3), .val (.int p4), .val (.int (p2.toInt8.toInt32)), .val (.int (p3.toInt8.toInt32)), .val (.ref b1), .val (.int ((p4 &&& (2147483647 : Int32)) % (6 : Int32))), .val (.int (v0_0 q0 p1 p2 p3 p4)), .val (.int (v0_1 q0 p1 p2 p3 p4)), .val (.int (-1 : Int32))] [(.int (f3L3 (p2.toInt8.toInt32) (p3.toInt8.toInt32) ((p4 &&& (2147483647 : Int32)) % (6 : Int32)) (v0_0 q0 p1 p2 p3 p4) (nar .byte (f1 q0 p1 (3 : Int32) (p2.toInt8.toInt32) (p3.toInt8.toInt32)))))]))
        by_cases hc208 : (f3L3 (p2.toInt8.toInt32) (p3.toInt8.toInt32) ((p4 &&& (2147483647 : Int32)) % (6 : Int32)) (v0_0 q0 p1 p2 p3 p4) (nar .byte (f1 q0 p1 (3 : Int32) (p2.toInt8.toInt32) (p3.toInt8.toInt32)))) = (0 : Int32)
        · refine OGo.st (fun _ k => XS.ifYes X17.here hx rfl (pc0 := 208) (pc' := 217) rfl (hb hby at_208) rfl ((if0 _ _).trans (teq hc208).1) (by decide) (by decide) k) ?_
          show OGo p e below s _ _ _ (T17.setTop (mkF m 217 #[.val (.long q0), .second, .val (.int p1), .val (.int p2), .val (.int p3), .val (.int p4), .val (.int (p2.toInt8.toInt32)), .val (.int (p3.toInt8.toInt32)), .val (.ref b1), .val (.int ((p4 &&& (2147483647 : Int32)) % (6 : Int32))), .val (.int (v0_0 q0 p1 p2 p3 p4)), .val (.int (v0_1 q0 p1 p2 p3 p4)), .val (.int (-1 : Int32))] []))
          refine OGo.st (fun _ k => XS.aload X17.here hx rfl (hb hby at_217) rfl rfl k) ?_
          show OGo p e below s _ _ _ (T17.setTop (mkF m 219 #[.val (.long q0), .second, .val (.int p1), .val (.int p2), .val (.int p3), .val (.int p4), .val (.int (p2.toInt8.toInt32)), .val (.int (p3.toInt8.toInt32)), .val (.ref b1), .val (.int ((p4 &&& (2147483647 : Int32)) % (6 : Int32))), .val (.int (v0_0 q0 p1 p2 p3 p4)), .val (.int (v0_1 q0 p1 p2 p3 p4)), .val (.int (-1 : Int32))] [(.ref b1)]))
          refine OGo.st (fun _ k => XS.iconst X17.here hx rfl (hb hby at_219) k) ?_
          show OGo p e below s _ _ _ (T17.setTop (mkF m 220 #[.val (.long q0), .second, .val (.int p1), .val (.int p2), .val (.int p3), .val (.int p4), .val (.int (p2.toInt8.toInt32)), .val (.int (p3.toInt8.toInt32)), .val (.ref b1), .val (.int ((p4 &&& (2147483647 : Int32)) % (6 : Int32))), .val (.int (v0_0 q0 p1 p2 p3 p4)), .val (.int (v0_1 q0 p1 p2 p3 p4)), .val (.int (-1 : Int32))] [(.int (4 : Int32)), (.ref b1)]))
          refine OGo.st (fun _ k => XS.iload X17.here hx rfl (hb hby at_220) rfl k) ?_
          show OGo p e below s _ _ _ (T17.setTop (mkF m 222 #[.val (.long q0), .second, .val (.int p1), .val (.int p2), .val (.int p3), .val (.int p4), .val (.int (p2.toInt8.toInt32)), .val (.int (p3.toInt8.toInt32)), .val (.ref b1), .val (.int ((p4 &&& (2147483647 : Int32)) % (6 : Int32))), .val (.int (v0_0 q0 p1 p2 p3 p4)), .val (.int (v0_1 q0 p1 p2 p3 p4)), .val (.int (-1 : Int32))] [(.int (p2.toInt8.toInt32)), (.int (4 : Int32)), (.ref b1)]))
          refine OGo.st (fun _ k => XS.iload X17.here hx rfl (hb hby at_222) rfl k) ?_
          show OGo p e below s _ _ _ (T17.setTop (mkF m 224 #[.val (.long q0), .second, .val (.int p1), .val (.int p2), .val (.int p3), .val (.int p4), .val (.int (p2.toInt8.toInt32)), .val (.int (p3.toInt8.toInt32)), .val (.ref b1), .val (.int ((p4 &&& (2147483647 : Int32)) % (6 : Int32))), .val (.int (v0_0 q0 p1 p2 p3 p4)), .val (.int (v0_1 q0 p1 p2 p3 p4)), .val (.int (-1 : Int32))] [(.int (p3.toInt8.toInt32)), (.int (p2.toInt8.toInt32)), (.int (4 : Int32)), (.ref b1)]))
          refine OGo.st (fun _ k => XS.iload X17.here hx rfl (hb hby at_224) rfl k) ?_
          show OGo p e below s _ _ _ (T17.setTop (mkF m 226 #[.val (.long q0), .second, .val (.int p1), .val (.int p2), .val (.int p3), .val (.int p4), .val (.int (p2.toInt8.toInt32)), .val (.int (p3.toInt8.toInt32)), .val (.ref b1), .val (.int ((p4 &&& (2147483647 : Int32)) % (6 : Int32))), .val (.int (v0_0 q0 p1 p2 p3 p4)), .val (.int (v0_1 q0 p1 p2 p3 p4)), .val (.int (-1 : Int32))] [(.int ((p4 &&& (2147483647 : Int32)) % (6 : Int32))), (.int (p3.toInt8.toInt32)), (.int (p2.toInt8.toInt32)), (.int (4 : Int32)), (.ref b1)]))
          refine OGo.st (fun _ k => XS.iload X17.here hx rfl (hb hby at_226) rfl k) ?_
          show OGo p e below s _ _ _ (T17.setTop (mkF m 228 #[.val (.long q0), .second, .val (.int p1), .val (.int p2), .val (.int p3), .val (.int p4), .val (.int (p2.toInt8.toInt32)), .val (.int (p3.toInt8.toInt32)), .val (.ref b1), .val (.int ((p4 &&& (2147483647 : Int32)) % (6 : Int32))), .val (.int (v0_0 q0 p1 p2 p3 p4)), .val (.int (v0_1 q0 p1 p2 p3 p4)), .val (.int (-1 : Int32))] [(.int (v0_0 q0 p1 p2 p3 p4)), (.int ((p4 &&& (2147483647 : Int32)) % (6 : Int32))), (.int (p3.toInt8.toInt32)), (.int (p2.toInt8.toInt32)), (.int (4 : Int32)), (.ref b1)]))
          obtain ⟨_, _, ⟨T18, L18, k18, n18⟩, -, X18, ⟨Lc18, hQ18, l18, y18, z18⟩, st18⟩ := Jvm.LawKit.callS X17 hx (y := (⟨"com/example/assaywire/assaywire/protocol/BytesIndexOfEitherPinLaw", "hit", "([BIBBII)Z"⟩ : MethodName)) hown (mvT hZ (hw _ (List.mem_of_getElem? (i := 10) rfl))) (mvT hZ (hw _ (List.mem_of_getElem? (i := 11) rfl))) (mvT hZ (hw _ (List.mem_of_getElem? (i := 3) rfl))) (mvT hZ (hw _ (List.mem_of_getElem? (i := 12) rfl))) (by decide) (backOf (W := 0) (rm3L4 l Z a0 hw [] b1 (p2.toInt8.toInt32) (p3.toInt8.toInt32) ((p4 &&& (2147483647 : Int32)) % (6 : Int32)) (v0_0 q0 p1 p2 p3 p4) k1 (nar .byte (f1 q0 p1 (0 : Int32) (p2.toInt8.toInt32) (p3.toInt8.toInt32))) (nar .byte (f1 q0 p1 (1 : Int32) (p2.toInt8.toInt32) (p3.toInt8.toInt32))) (nar .byte (f1 q0 p1 (2 : Int32) (p2.toInt8.toInt32) (p3.toInt8.toInt32))) (nar .byte (f1 q0 p1 (3 : Int32) (p2.toInt8.toInt32) (p3.toInt8.toInt32))) (nar .byte (f1 q0 p1 (4 : Int32) (p2.toInt8.toInt32) (p3.toInt8.toInt32))) h11 n0 Z11 V11) hZ (hw _ (List.mem_of_getElem? (i := 12) rfl)) (hw _ (List.mem_of_getElem? (i := 3) rfl)) (by decide) (by decide)) (g := (mkF m 228 #[.val (.long q0), .second, .val (.int p1), .val (.int p2), .val (.int p3), .val (.int p4), .val (.int (p2.toInt8.toInt32)), .val (.int (p3.toInt8.toInt32)), .val (.ref b1), .val (.int ((p4 &&& (2147483647 : Int32)) % (6 : Int32))), .val (.int (v0_0 q0 p1 p2 p3 p4)), .val (.int (v0_1 q0 p1 p2 p3 p4)), .val (.int (-1 : Int32))] [(.int (v0_0 q0 p1 p2 p3 p4)), (.int ((p4 &&& (2147483647 : Int32)) % (6 : Int32))), (.int (p3.toInt8.toInt32)), (.int (p2.toInt8.toInt32)), (.int (4 : Int32)), (.ref b1)])) rfl (by rw [hml]; rfl) (argsL := [(.ref b1), (.int (4 : Int32)), (.int (p2.toInt8.toInt32)), (.int (p3.toInt8.toInt32)), (.int ((p4 &&& (2147483647 : Int32)) % (6 : Int32))), (.int (v0_0 q0 p1 p2 p3 p4))]) (rest := []) (lenOf pd_0_2 rfl) rfl (by show 2 * 0 + _ ≤ _; exact Nat.le_of_eq rfl) (hb hby at_228) (fun _ _ => ⟨rfl, e17, (by decide : 1 + 0 ≤ _), (by decide : 5 + 0 ≤ _)⟩)
          dsimp only [Pt.U, Pt.locs, Pt.cells, Pt.slots] at X18 l18 y18 z18 st18 hQ18
          subst l18 y18 z18
          obtain ⟨rfl, N18q, e18⟩ := hQ18
          have N18 := Fr.app N17 N18q
          refine OGo.st st18 ?_
          show OGo p e below s _ _ _ (T18.setTop (mkF m 231 #[.val (.long q0), .second, .val (.int p1), .val (.int p2), .val (.int p3), .val (.int p4), .val (.int (p2.toInt8.toInt32)), .val (.int (p3.toInt8.toInt32)), .val (.ref b1), .val (.int ((p4 &&& (2147483647 : Int32)) % (6 : Int32))), .val (.int (v0_0 q0 p1 p2 p3 p4)), .val (.int (v0_1 q0 p1 p2 p3 p4)), .val (.int (-1 : Int32))] [(.int (f3L4 (p2.toInt8.toInt32) (p3.toInt8.toInt32) ((p4 &&& (2147483647 : Int32)) % (6 : Int32)) (v0_0 q0 p1 p2 p3 p4) (nar .byte (f1 q0 p1 (4 : Int32) (p2.toInt8.toInt32) (p3.toInt8.toInt32)))))]))
          by_cases hc231 : (f3L4 (p2.toInt8.toInt32) (p3.toInt8.toInt32) ((p4 &&& (2147483647 : Int32)) % (6 : Int32)) (v0_0 q0 p1 p2 p3 p4) (nar .byte (f1 q0 p1 (4 : Int32) (p2.toInt8.toInt32) (p3.toInt8.toInt32)))) = (0 : Int32)
          · refine OGo.st (fun _ k => XS.ifYes X18.here hx rfl (pc0 := 231) (pc' := 237) rfl (hb hby at_231) rfl ((if0 _ _).trans (teq hc231).1) (by decide) (by decide) k) ?_
            show OGo p e below s _ _ _ (T18.setTop (mkF m 237 #[.val (.long q0), .second, .val (.int p1), .val (.int p2), .val (.int p3), .val (.int p4), .val (.int (p2.toInt8.toInt32)), .val (.int (p3.toInt8.toInt32)), .val (.ref b1), .val (.int ((p4 &&& (2147483647 : Int32)) % (6 : Int32))), .val (.int (v0_0 q0 p1 p2 p3 p4)), .val (.int (v0_1 q0 p1 p2 p3 p4)), .val (.int (-1 : Int32))] []))
            exact hj237 T18 _ X18 e18 N18 (-1 : Int32) (by unfold f0; exact (if_pos hc139).trans ((if_pos hc162).trans ((if_pos hc185).trans ((if_pos hc208).trans (if_pos hc231)))))
          · refine OGo.st (fun _ k => XS.ifNo X18.here hx rfl (hb hby at_231) rfl ((if0 _ _).trans (feq hc231).1) k) ?_
            show OGo p e below s _ _ _ (T18.setTop (mkF m 234 #[.val (.long q0), .second, .val (.int p1), .val (.int p2), .val (.int p3), .val (.int p4), .val (.int (p2.toInt8.toInt32)), .val (.int (p3.toInt8.toInt32)), .val (.ref b1), .val (.int ((p4 &&& (2147483647 : Int32)) % (6 : Int32))), .val (.int (v0_0 q0 p1 p2 p3 p4)), .val (.int (v0_1 q0 p1 p2 p3 p4)), .val (.int (-1 : Int32))] []))
            refine OGo.st (fun _ k => XS.iconst X18.here hx rfl (hb hby at_234) k) ?_
            show OGo p e below s _ _ _ (T18.setTop (mkF m 235 #[.val (.long q0), .second, .val (.int p1), .val (.int p2), .val (.int p3), .val (.int p4), .val (.int (p2.toInt8.toInt32)), .val (.int (p3.toInt8.toInt32)), .val (.ref b1), .val (.int ((p4 &&& (2147483647 : Int32)) % (6 : Int32))), .val (.int (v0_0 q0 p1 p2 p3 p4)), .val (.int (v0_1 q0 p1 p2 p3 p4)), .val (.int (-1 : Int32))] [(.int (4 : Int32))]))
            refine OGo.st (fun _ k => XS.istore X18.here hx rfl (hb hby at_235) rfl (l' := #[.val (.long q0), .second, .val (.int p1), .val (.int p2), .val (.int p3), .val (.int p4), .val (.int (p2.toInt8.toInt32)), .val (.int (p3.toInt8.toInt32)), .val (.ref b1), .val (.int ((p4 &&& (2147483647 : Int32)) % (6 : Int32))), .val (.int (v0_0 q0 p1 p2 p3 p4)), .val (.int (v0_1 q0 p1 p2 p3 p4)), .val (.int (4 : Int32))]) rfl k) ?_
            show OGo p e below s _ _ _ (T18.setTop (mkF m 237 #[.val (.long q0), .second, .val (.int p1), .val (.int p2), .val (.int p3), .val (.int p4), .val (.int (p2.toInt8.toInt32)), .val (.int (p3.toInt8.toInt32)), .val (.ref b1), .val (.int ((p4 &&& (2147483647 : Int32)) % (6 : Int32))), .val (.int (v0_0 q0 p1 p2 p3 p4)), .val (.int (v0_1 q0 p1 p2 p3 p4)), .val (.int (4 : Int32))] []))
            exact hj237 T18 _ X18 e18 N18 (4 : Int32) (by unfold f0; exact (if_pos hc139).trans ((if_pos hc162).trans ((if_pos hc185).trans ((if_pos hc208).trans (if_neg hc231)))))
        · refine OGo.st (fun _ k => XS.ifNo X17.here hx rfl (hb hby at_208) rfl ((if0 _ _).trans (feq hc208).1) k) ?_
          show OGo p e below s _ _ _ (T17.setTop (mkF m 211 #[.val (.long q0), .second, .val (.int p1), .val (.int p2), .val (.int p3), .val (.int p4), .val (.int (p2.toInt8.toInt32)), .val (.int (p3.toInt8.toInt32)), .val (.ref b1), .val (.int ((p4 &&& (2147483647 : Int32)) % (6 : Int32))), .val (.int (v0_0 q0 p1 p2 p3 p4)), .val (.int (v0_1 q0 p1 p2 p3 p4)), .val (.int (-1 : Int32))] []))
          refine OGo.st (fun _ k => XS.iconst X17.here hx rfl (hb hby at_211) k) ?_
          show OGo p e below s _ _ _ (T17.setTop (mkF m 212 #[.val (.long q0), .second, .val (.int p1), .val (.int p2), .val (.int p3), .val (.int p4), .val (.int (p2.toInt8.toInt32)), .val (.int (p3.toInt8.toInt32)), .val (.ref b1), .val (.int ((p4 &&& (2147483647 : Int32)) % (6 : Int32))), .val (.int (v0_0 q0 p1 p2 p3 p4)), .val (.int (v0_1 q0 p1 p2 p3 p4)), .val (.int (-1 : Int32))] [(.int (3 : Int32))]))
          refine OGo.st (fun _ k => XS.istore X17.here hx rfl (hb hby at_212) rfl (l' := #[.val (.long q0), .second, .val (.int p1), .val (.int p2), .val (.int p3), .val (.int p4), .val (.int (p2.toInt8.toInt32)), .val (.int (p3.toInt8.toInt32)), .val (.ref b1), .val (.int ((p4 &&& (2147483647 : Int32)) % (6 : Int32))), .val (.int (v0_0 q0 p1 p2 p3 p4)), .val (.int (v0_1 q0 p1 p2 p3 p4)), .val (.int (3 : Int32))]) rfl k) ?_
          show OGo p e below s _ _ _ (T17.setTop (mkF m 214 #[.val (.long q0), .second, .val (.int p1), .val (.int p2), .val (.int p3), .val (.int p4), .val (.int (p2.toInt8.toInt32)), .val (.int (p3.toInt8.toInt32)), .val (.ref b1), .val (.int ((p4 &&& (2147483647 : Int32)) % (6 : Int32))), .val (.int (v0_0 q0 p1 p2 p3 p4)), .val (.int (v0_1 q0 p1 p2 p3 p4)), .val (.int (3 : Int32))] []))
          refine OGo.st (fun _ k => XS.goto X17.here hx rfl (pc0 := 214) (pc' := 237) rfl (hb hby at_214) (by decide) (by decide) k) ?_
          show OGo p e below s _ _ _ (T17.setTop (mkF m 237 #[.val (.long q0), .second, .val (.int p1), .val (.int p2), .val (.int p3), .val (.int p4), .val (.int (p2.toInt8.toInt32)), .val (.int (p3.toInt8.toInt32)), .val (.ref b1), .val (.int ((p4 &&& (2147483647 : Int32)) % (6 : Int32))), .val (.int (v0_0 q0 p1 p2 p3 p4)), .val (.int (v0_1 q0 p1 p2 p3 p4)), .val (.int (3 : Int32))] []))
          exact hj237 T17 _ X17 e17 N17 (3 : Int32) (by unfold f0; exact (if_pos hc139).trans ((if_pos hc162).trans ((if_pos hc185).trans (if_neg hc208))))
      · refine OGo.st (fun _ k => XS.ifNo X16.here hx rfl (hb hby at_185) rfl ((if0 _ _).trans (feq hc185).1) k) ?_
        show OGo p e below s _ _ _ (T16.setTop (mkF m 188 #[.val (.long q0), .second, .val (.int p1), .val (.int p2), .val (.int p3), .val (.int p4), .val (.int (p2.toInt8.toInt32)), .val (.int (p3.toInt8.toInt32)), .val (.ref b1), .val (.int ((p4 &&& (2147483647 : Int32)) % (6 : Int32))), .val (.int (v0_0 q0 p1 p2 p3 p4)), .val (.int (v0_1 q0 p1 p2 p3 p4)), .val (.int (-1 : Int32))] []))
        refine OGo.st (fun _ k => XS.iconst X16.here hx rfl (hb hby at_188) k) ?_
        show OGo p e below s _ _ _ (T16.setTop (mkF m 189 #[.val (.long q0), .second, .val (.int p1), .val (.int p2), .val (.int p3), .val (.int p4), .val (.int (p2.toInt8.toInt32)), .val (.int (p3.toInt8.toInt32)), .val (.ref b1), .val (.int ((p4 &&& (2147483647 : Int32)) % (6 : Int32))), .val (.int (v0_0 q0 p1 p2 p3 p4)), .val (.int (v0_1 q0 p1 p2 p3 p4)), .val (.int (-1 : Int32))] [(.int (2 : Int32))]))
        refine OGo.st (fun _ k => XS.istore X16.here hx rfl (hb hby at_189) rfl (l' := #[.val (.long q0), .second, .val (.int p1), .val (.int p2), .val (.int p3), .val (.int p4), .val (.int (p2.toInt8.toInt32)), .val (.int (p3.toInt8.toInt32)), .val (.ref b1), .val (.int ((p4 &&& (2147483647 : Int32)) % (6 : Int32))), .val (.int (v0_0 q0 p1 p2 p3 p4)), .val (.int (v0_1 q0 p1 p2 p3 p4)), .val (.int (2 : Int32))]) rfl k) ?_
        show OGo p e below s _ _ _ (T16.setTop (mkF m 191 #[.val (.long q0), .second, .val (.int p1), .val (.int p2), .val (.int p3), .val (.int p4), .val (.int (p2.toInt8.toInt32)), .val (.int (p3.toInt8.toInt32)), .val (.ref b1), .val (.int ((p4 &&& (2147483647 : Int32)) % (6 : Int32))), .val (.int (v0_0 q0 p1 p2 p3 p4)), .val (.int (v0_1 q0 p1 p2 p3 p4)), .val (.int (2 : Int32))] []))
        refine OGo.st (fun _ k => XS.goto X16.here hx rfl (pc0 := 191) (pc' := 237) rfl (hb hby at_191) (by decide) (by decide) k) ?_
        show OGo p e below s _ _ _ (T16.setTop (mkF m 237 #[.val (.long q0), .second, .val (.int p1), .val (.int p2), .val (.int p3), .val (.int p4), .val (.int (p2.toInt8.toInt32)), .val (.int (p3.toInt8.toInt32)), .val (.ref b1), .val (.int ((p4 &&& (2147483647 : Int32)) % (6 : Int32))), .val (.int (v0_0 q0 p1 p2 p3 p4)), .val (.int (v0_1 q0 p1 p2 p3 p4)), .val (.int (2 : Int32))] []))
        exact hj237 T16 _ X16 e16 N16 (2 : Int32) (by unfold f0; exact (if_pos hc139).trans ((if_pos hc162).trans (if_neg hc185)))
    · refine OGo.st (fun _ k => XS.ifNo X15.here hx rfl (hb hby at_162) rfl ((if0 _ _).trans (feq hc162).1) k) ?_
      show OGo p e below s _ _ _ (T15.setTop (mkF m 165 #[.val (.long q0), .second, .val (.int p1), .val (.int p2), .val (.int p3), .val (.int p4), .val (.int (p2.toInt8.toInt32)), .val (.int (p3.toInt8.toInt32)), .val (.ref b1), .val (.int ((p4 &&& (2147483647 : Int32)) % (6 : Int32))), .val (.int (v0_0 q0 p1 p2 p3 p4)), .val (.int (v0_1 q0 p1 p2 p3 p4)), .val (.int (-1 : Int32))] []))
      refine OGo.st (fun _ k => XS.iconst X15.here hx rfl (hb hby at_165) k) ?_
      show OGo p e below s _ _ _ (T15.setTop (mkF m 166 #[.val (.long q0), .second, .val (.int p1), .val (.int p2), .val (.int p3), .val (.int p4), .val (.int (p2.toInt8.toInt32)), .val (.int (p3.toInt8.toInt32)), .val (.ref b1), .val (.int ((p4 &&& (2147483647 : Int32)) % (6 : Int32))), .val (.int (v0_0 q0 p1 p2 p3 p4)), .val (.int (v0_1 q0 p1 p2 p3 p4)), .val (.int (-1 : Int32))] [(.int (1 : Int32))]))
      refine OGo.st (fun _ k => XS.istore X15.here hx rfl (hb hby at_166) rfl (l' := #[.val (.long q0), .second, .val (.int p1), .val (.int p2), .val (.int p3), .val (.int p4), .val (.int (p2.toInt8.toInt32)), .val (.int (p3.toInt8.toInt32)), .val (.ref b1), .val (.int ((p4 &&& (2147483647 : Int32)) % (6 : Int32))), .val (.int (v0_0 q0 p1 p2 p3 p4)), .val (.int (v0_1 q0 p1 p2 p3 p4)), .val (.int (1 : Int32))]) rfl k) ?_
      show OGo p e below s _ _ _ (T15.setTop (mkF m 168 #[.val (.long q0), .second, .val (.int p1), .val (.int p2), .val (.int p3), .val (.int p4), .val (.int (p2.toInt8.toInt32)), .val (.int (p3.toInt8.toInt32)), .val (.ref b1), .val (.int ((p4 &&& (2147483647 : Int32)) % (6 : Int32))), .val (.int (v0_0 q0 p1 p2 p3 p4)), .val (.int (v0_1 q0 p1 p2 p3 p4)), .val (.int (1 : Int32))] []))
      refine OGo.st (fun _ k => XS.goto X15.here hx rfl (pc0 := 168) (pc' := 237) rfl (hb hby at_168) (by decide) (by decide) k) ?_
      show OGo p e below s _ _ _ (T15.setTop (mkF m 237 #[.val (.long q0), .second, .val (.int p1), .val (.int p2), .val (.int p3), .val (.int p4), .val (.int (p2.toInt8.toInt32)), .val (.int (p3.toInt8.toInt32)), .val (.ref b1), .val (.int ((p4 &&& (2147483647 : Int32)) % (6 : Int32))), .val (.int (v0_0 q0 p1 p2 p3 p4)), .val (.int (v0_1 q0 p1 p2 p3 p4)), .val (.int (1 : Int32))] []))
      exact hj237 T15 _ X15 e15 N15 (1 : Int32) (by unfold f0; exact (if_pos hc139).trans (if_neg hc162))
  · refine OGo.st (fun _ k => XS.ifNo X13.here hx rfl (hb hby at_139) rfl ((if0 _ _).trans (feq hc139).1) k) ?_
    show OGo p e below s _ _ _ (T13.setTop (mkF m 142 #[.val (.long q0), .second, .val (.int p1), .val (.int p2), .val (.int p3), .val (.int p4), .val (.int (p2.toInt8.toInt32)), .val (.int (p3.toInt8.toInt32)), .val (.ref b1), .val (.int ((p4 &&& (2147483647 : Int32)) % (6 : Int32))), .val (.int (v0_0 q0 p1 p2 p3 p4)), .val (.int (v0_1 q0 p1 p2 p3 p4)), .val (.int (-1 : Int32))] []))
    refine OGo.st (fun _ k => XS.iconst X13.here hx rfl (hb hby at_142) k) ?_
    show OGo p e below s _ _ _ (T13.setTop (mkF m 143 #[.val (.long q0), .second, .val (.int p1), .val (.int p2), .val (.int p3), .val (.int p4), .val (.int (p2.toInt8.toInt32)), .val (.int (p3.toInt8.toInt32)), .val (.ref b1), .val (.int ((p4 &&& (2147483647 : Int32)) % (6 : Int32))), .val (.int (v0_0 q0 p1 p2 p3 p4)), .val (.int (v0_1 q0 p1 p2 p3 p4)), .val (.int (-1 : Int32))] [(.int (0 : Int32))]))
    refine OGo.st (fun _ k => XS.istore X13.here hx rfl (hb hby at_143) rfl (l' := #[.val (.long q0), .second, .val (.int p1), .val (.int p2), .val (.int p3), .val (.int p4), .val (.int (p2.toInt8.toInt32)), .val (.int (p3.toInt8.toInt32)), .val (.ref b1), .val (.int ((p4 &&& (2147483647 : Int32)) % (6 : Int32))), .val (.int (v0_0 q0 p1 p2 p3 p4)), .val (.int (v0_1 q0 p1 p2 p3 p4)), .val (.int (0 : Int32))]) rfl k) ?_
    show OGo p e below s _ _ _ (T13.setTop (mkF m 145 #[.val (.long q0), .second, .val (.int p1), .val (.int p2), .val (.int p3), .val (.int p4), .val (.int (p2.toInt8.toInt32)), .val (.int (p3.toInt8.toInt32)), .val (.ref b1), .val (.int ((p4 &&& (2147483647 : Int32)) % (6 : Int32))), .val (.int (v0_0 q0 p1 p2 p3 p4)), .val (.int (v0_1 q0 p1 p2 p3 p4)), .val (.int (0 : Int32))] []))
    refine OGo.st (fun _ k => XS.goto X13.here hx rfl (pc0 := 145) (pc' := 237) rfl (hb hby at_145) (by decide) (by decide) k) ?_
    show OGo p e below s _ _ _ (T13.setTop (mkF m 237 #[.val (.long q0), .second, .val (.int p1), .val (.int p2), .val (.int p3), .val (.int p4), .val (.int (p2.toInt8.toInt32)), .val (.int (p3.toInt8.toInt32)), .val (.ref b1), .val (.int ((p4 &&& (2147483647 : Int32)) % (6 : Int32))), .val (.int (v0_0 q0 p1 p2 p3 p4)), .val (.int (v0_1 q0 p1 p2 p3 p4)), .val (.int (0 : Int32))] []))
    exact hj237 T13 _ X13 e13 N13 (0 : Int32) (by unfold f0; exact if_neg hc139)
theorem own_cases6 (a : Int32) (h0 : 0 ≤ a.toInt) (h5 : a.toInt ≤ 5) : a = 0 ∨ a = 1 ∨ a = 2 ∨ a = 3 ∨ a = 4 ∨ a = 5 := by
  simp only [← Int32.toInt_inj, own_c0, own_c1, own_c2, own_c3, own_c4, own_c5]; omega
theorem own_if (p q : Prop) [Decidable p] [Decidable q] (A B : Int32) : (if (if p then (1 : Int32) else if q then (1 : Int32) else (0 : Int32)) = (0 : Int32) then A else B) = if p then B else if q then B else A := by
  by_cases h : p <;> by_cases k : q <;> simp [h, k]
theorem own_hits (x0 x1 x2 x3 x4 a b f t : Int32) (hf : 0 ≤ f.toInt ∧ f.toInt ≤ 5) (ht : 0 ≤ t.toInt ∧ t.toInt ≤ 5) :
    f2 a b f t x0 x1 x2 x3 x4 = if f3L0 a b f t x0 = 0 then (if f3L1 a b f t x1 = 0 then (if f3L2 a b f t x2 = 0 then (if f3L3 a b f t x3 = 0 then (if f3L4 a b f t x4 = 0 then -1 else 4) else 3) else 2) else 1) else 0 := by
  unfold f2 f3L0 f3L1 f3L2 f3L3 f3L4
  rcases own_cases6 f hf.1 hf.2 with rfl | rfl | rfl | rfl | rfl | rfl <;> rcases own_cases6 t ht.1 ht.2 with rfl | rfl | rfl | rfl | rfl | rfl <;> simp [own_loop, own_at, own_if]
theorem own_plain (q0 : Int64) (p1 p2 p3 p4 : Int32) : f0 q0 p1 p2 p3 p4 = 1 := by
  have h := own_hits (nar .byte (f1 q0 p1 (0 : Int32) (p2.toInt8.toInt32) (p3.toInt8.toInt32))) (nar .byte (f1 q0 p1 (1 : Int32) (p2.toInt8.toInt32) (p3.toInt8.toInt32))) (nar .byte (f1 q0 p1 (2 : Int32) (p2.toInt8.toInt32) (p3.toInt8.toInt32))) (nar .byte (f1 q0 p1 (3 : Int32) (p2.toInt8.toInt32) (p3.toInt8.toInt32))) (nar .byte (f1 q0 p1 (4 : Int32) (p2.toInt8.toInt32) (p3.toInt8.toInt32))) (p2.toInt8.toInt32) (p3.toInt8.toInt32) ((p4 &&& (2147483647 : Int32)) % (6 : Int32)) (v0_0 q0 p1 p2 p3 p4) (own_six p4) (own_six _)
  unfold f0 f0_237 v0_1
  rw [h]
  generalize f3L0 _ _ _ _ _ = h0
  generalize f3L1 _ _ _ _ _ = h1
  generalize f3L2 _ _ _ _ _ = h2
  generalize f3L3 _ _ _ _ _ = h3
  generalize f3L4 _ _ _ _ _ = h4
  by_cases a0 : h0 = 0
  · by_cases a1 : h1 = 0
    · by_cases a2 : h2 = 0
      · by_cases a3 : h3 = 0
        · by_cases a4 : h4 = 0 <;> simp [a0, a1, a2, a3, a4]
        · simp [a0, a1, a2, a3]
      · simp [a0, a1, a2]
    · simp [a0, a1]
  · simp [a0]
set_option maxRecDepth 65536 in
set_option maxHeartbeats 40000000 in
theorem comes_1 {Post : Tables → Env → Array Value → State → Outcome → State → Prop} (hpost : ∀ tb e args s v u, (limb_1_1.after args s (.returned v) u = true ∧ limb_1_2.after args s (.returned v) u = true ∧ True) → FrameEnd s (.returned v) u (Jvm.fieldLocs frame_1_writes args s ++ Jvm.arrayLocs frame_1_arrays args s ++ Jvm.staticLocs frame_1_statics s) 16 128 → Post tb e args s (.returned v) u) :
    ArmFor flags0 classFile x code maxLocals ret World_1 tables_1 room_1 Calls_1 rest_1 Pre_1 Post := by
  intro l hfl _ _ p e ha hc hk s m args below hf hA hF happ hP
  obtain ⟨hcalls, hrest, hpre⟩ := hP
  obtain ⟨-, -, -, hnamed, -, -, -, hat⟩ := (Spec.applies_iff hf).mp happ
  obtain ⟨hg, hn⟩ := and_e (Cond.before_iff.mp (show (Jvm.Cond.and given_1 narrow_1).before args s = true from hpre))
  obtain ⟨gv1, gv2⟩ := and_e hg
  obtain ⟨gv3, gv4⟩ := and_e gv2
  obtain ⟨gv5, gv6⟩ := and_e gv4
  obtain ⟨gv7, gv8⟩ := and_e gv6
  obtain ⟨gv9, gv10⟩ := and_e gv8
  obtain ⟨w0, w1, w2, w3, w4, rfl⟩ : ∃ w0 w1 w2 w3 w4 : Value, args = #[w0, w1, w2, w3, w4] := by
    have hs : args.size = 5 := by simpa [Cond.value, given_1] using gv1
    obtain ⟨L⟩ := args
    match L, hs with
    | [w0, w1, w2, w3, w4], _ => exact ⟨w0, w1, w2, w3, w4, rfl⟩
  have hw := fun d (hd : d ∈ tables_1) => atoms_spec (ws := Jvm.Cond.code x code maxLocals ret :: tables_1) hat d (List.mem_cons_of_mem _ hd)
  have hfit : Fit s := fun {y c} hc i hi => by
    obtain ⟨ha, rfl⟩ := Array.getElem?_eq_some_iff.mp hc
    have q := List.all_eq_true.mp ((Array.all_eq_true_iff_forall_mem.mp hF) _ (Array.getElem_mem ha)) i (List.mem_range.mpr hi)
    simpa [Array.getElem?_eq_getElem hi] using q
  obtain ⟨i0, ei0⟩ := isL_v gv3
  obtain rfl : w0 = (.long i0) := Option.some.inj ei0
  obtain ⟨i1, ei1⟩ := is_v gv5
  obtain rfl : w1 = (.int i1) := Option.some.inj ei1
  obtain ⟨i2, ei2⟩ := is_v gv7
  obtain rfl : w2 = (.int i2) := Option.some.inj ei2
  obtain ⟨i3, ei3⟩ := is_v gv9
  obtain rfl : w3 = (.int i3) := Option.some.inj ei3
  obtain ⟨i4, ei4⟩ := is_v gv10
  obtain rfl : w4 = (.int i4) := Option.some.inj ei4
  have hpl := own_plain i0 i1 i2 i3 i4
  obtain ⟨n, o, h1, h2, h3, _, L, rfl, ⟨rfl, N⟩, hq⟩ := rm0 l s _ hw tables_1 i0 i1 i2 i3 i4 s.heap s.heap.size (Nat.le_refl _) p e ha hc hk s m _ below hf ((Spec.applies_iff_loose hf).mp happ).1 ⟨rfl, State.Warmed39.refl s, rfl⟩ trivial
  refine ⟨n, _, h1, h2, h3, hpost _ _ _ _ _ _ ⟨Cond.after_iff.mpr rfl, Cond.after_iff.mpr (eq_i res_at (Term.int_eval (1)) (congrArg Value.int hpl)), trivial⟩ ⟨hq.1, hq.2.1, (hq.2.2.sift fun y hy => Or.inr (N y hy)).mono (by decide) (by decide)⟩⟩
theorem main_1_1 : Claimed_1_1 := comes_1 fun _ _ _ _ _ _ h hF => ⟨h.1, hF⟩
theorem main_1_2 : Claimed_1_2 := comes_1 fun _ _ _ _ _ _ h hF => ⟨h.2.1, hF⟩
end Jvm.Pilot.@@N@@
namespace Jvm.Pilot.@@N@@
open Jvm Jvm.ClassFile Sem Op Lib Jvm.Free Jvm.Stand Jvm.Pilot.@@N@@.Jvm.D
/-! MADE BY PROGRAM (witnessworld.py) out of the Statement's table words and the real class files: 9 classes; the members and pool entries that the words name. The judged class is class 1, her method 1. -/
namespace start1
open Jvm.ClassFile
def u (s : String) : CpInfo := .utf8 (stringToUtf16 s)
/-- a pool by its gaps: so many unusable entries, then the entry; so many at the end -/
def gap : Nat → List CpInfo → List CpInfo
  | 0, r => r
  | n + 1, r => .unusable :: gap n r
def poolList (es : List (Nat × CpInfo)) (last : Nat) : List CpInfo := es.foldr (fun e r => gap e.1 (e.2 :: r)) (gap last [])
def pool (es : List (Nat × CpInfo)) (last : Nat) : Array CpInfo := ⟨poolList es last⟩
def fileOf (pool : Array CpInfo) (this : Nat) (attrs : Array Attribute := #[]) (ms : Array MethodInfo := #[]) (fl : Nat := 33) (sup : Nat := 0) (ifs : Array Nat := #[]) (fds : Array FieldInfo := #[]) : ClassFile where
  minorVersion := 0
  majorVersion := 65
  constantPool := pool
  accessFlags := fl
  thisClass := this
  superClass := sup
  interfaces := ifs
  fields := fds
  methods := ms
  attributes := attrs
def plain (name : String) (sup : Option ClassId) : Class where
  name := name
  kind := .ordinary
  loader := none
  accessFlags := 33
  super := sup
  interfaces := #[]
  cf := none
  fields := #[]
  methods := #[]
  instanceTypes := #[]
  staticTypes := #[]
  resolved := #[]
  callSites := []
  init := .initialized
  statics := none
  mirror := none

def pool0 : Array CpInfo := pool [(5, u "<init>"), (0, u "()V"), (1, .class_ 10), (1, u "java/lang/Object")] 113

def k0m0 : Method := { name := "<init>", desc := "()V", sig := { parameters := [], returnType := none }, accessFlags := 1, code := none }
/-- java/lang/Object -/
def k0 : Class := { plain "java/lang/Object" none with
  accessFlags := 33
  interfaces := #[]
  cf := some (fileOf pool0 8 #[] #[{ accessFlags := 1, nameIndex := 5, descriptorIndex := 6, attributes := #[] }] 33 0 #[] #[])
  fields := #[]
  methods := #[k0m0]
  instanceTypes := #[]
  staticTypes := #[]
  resolved := Array.replicate 124 none
  statics := none }

def pool1 : Array CpInfo := pool [(2, .class_ 4), (1, u "java/lang/Object"), (0, u "<init>"), (0, u "()V"), (0, .methodref 8 9), (0, .class_ 10), (0, .nameAndType 11 12), (0, u "com/example/assaywire/assaywire/protocol/BytesIndexOfEitherPinLaw"), (0, u "pick"), (0, u "(JIIBB)B"), (0, .integer 2147483647), (0, .methodref 15 16), (0, .class_ 17), (0, .nameAndType 18 19), (0, u "com/example/assaywire/assaywire/protocol/Bytes"), (0, u "indexOfEither"), (0, u "([BBBII)I"), (0, .methodref 8 21), (0, .nameAndType 22 23), (0, u "hit"), (0, u "([BIBBII)Z"), (2, u "law"), (0, u "(JIIII)Z")] 5

def k1m0 : Method := { name := "<init>", desc := "()V", sig := { parameters := [], returnType := none }, accessFlags := 1, code := none }
def k1c1 : Code := { maxStack := 8, maxLocals := 13, code := code, exceptionTable := #[], attributes := #[] }
def k1m1 : Method := { name := "law", desc := "(JIIII)Z", sig := { parameters := [.long, .int, .int, .int, .int], returnType := some .boolean }, accessFlags := 9, code := some k1c1 }
def k1c2 : Code := { maxStack := 4, maxLocals := 7, code := method_3_code, exceptionTable := #[], attributes := #[] }
def k1m2 : Method := { name := "pick", desc := "(JIIBB)B", sig := { parameters := [.long, .int, .int, .byte, .byte], returnType := some .byte }, accessFlags := 10, code := some k1c2 }
def k1c3 : Code := { maxStack := 2, maxLocals := 6, code := method_4_code, exceptionTable := #[], attributes := #[] }
def k1m3 : Method := { name := "hit", desc := "([BIBBII)Z", sig := { parameters := [(.array .byte), .int, .byte, .byte, .int, .int], returnType := some .boolean }, accessFlags := 10, code := some k1c3 }
/-- com/example/assaywire/assaywire/protocol/BytesIndexOfEitherPinLaw -/
def k1 : Class := { plain "com/example/assaywire/assaywire/protocol/BytesIndexOfEitherPinLaw" (some 0) with
  accessFlags := 49
  interfaces := #[]
  cf := some (fileOf pool1 8 #[] #[{ accessFlags := 1, nameIndex := 5, descriptorIndex := 6, attributes := #[] }, { accessFlags := 9, nameIndex := 26, descriptorIndex := 27, attributes := #[] }, { accessFlags := 10, nameIndex := 11, descriptorIndex := 12, attributes := #[] }, { accessFlags := 10, nameIndex := 22, descriptorIndex := 23, attributes := #[] }] 49 2 #[] #[])
  fields := #[]
  methods := #[k1m0, k1m1, k1m2, k1m3]
  instanceTypes := #[]
  staticTypes := #[]
  resolved := Array.replicate 33 none
  statics := none }

def pool2 : Array CpInfo := pool [(2, .class_ 4), (1, u "java/lang/Object"), (0, u "<init>"), (0, u "()V"), (0, .class_ 8), (0, u "com/example/assaywire/assaywire/protocol/Bytes"), (6, u "EIGHT"), (0, u "Ljava/lang/invoke/VarHandle;"), (24, u "ONES"), (0, u "J"), (1, u "HIGH_BITS"), (7, u "indexOfEither"), (0, u "([BBBII)I")] 3

def k2m0 : Method := { name := "<init>", desc := "()V", sig := { parameters := [], returnType := none }, accessFlags := 2, code := none }
def k2c1 : Code := { maxStack := 2, maxLocals := 6, code := prog_82_method_4_code, exceptionTable := #[], attributes := #[] }
def k2m1 : Method := { name := "indexOfEither", desc := "([BBBII)I", sig := { parameters := [(.array .byte), .byte, .byte, .int, .int], returnType := some .int }, accessFlags := 8, code := some k2c1 }
/-- com/example/assaywire/assaywire/protocol/Bytes -/
def k2 : Class := { plain "com/example/assaywire/assaywire/protocol/Bytes" (some 0) with
  accessFlags := 48
  interfaces := #[]
  cf := some (fileOf pool2 7 #[] #[{ accessFlags := 2, nameIndex := 5, descriptorIndex := 6, attributes := #[] }, { accessFlags := 8, nameIndex := 52, descriptorIndex := 53, attributes := #[] }] 48 2 #[] #[{ accessFlags := 26, nameIndex := 15, descriptorIndex := 16, attributes := #[] }, { accessFlags := 26, nameIndex := 41, descriptorIndex := 42, attributes := #[] }, { accessFlags := 26, nameIndex := 44, descriptorIndex := 42, attributes := #[] }])
  fields := #[{ name := "EIGHT", type := (.object "java/lang/invoke/VarHandle"), accessFlags := 26, slot := 0, constantValue := 0 }, { name := "ONES", type := .long, accessFlags := 26, slot := 1, constantValue := 0 }, { name := "HIGH_BITS", type := .long, accessFlags := 26, slot := 2, constantValue := 0 }]
  methods := #[k2m0, k2m1]
  instanceTypes := #[]
  staticTypes := #[(.object "java/lang/invoke/VarHandle"), .long, .long]
  resolved := Array.replicate 57 none
  statics := none }

def pool3 : Array CpInfo := pool [(1, u "java/lang/Cloneable"), (0, .class_ 1), (0, u "java/lang/Object"), (0, .class_ 3)] 3

/-- java/lang/Cloneable -/
def k3 : Class := { plain "java/lang/Cloneable" (some 0) with
  accessFlags := 1537
  interfaces := #[]
  cf := some (fileOf pool3 2 #[] #[] 1537 4 #[] #[])
  fields := #[]
  methods := #[]
  instanceTypes := #[]
  staticTypes := #[]
  resolved := Array.replicate 8 none
  statics := none }

def pool4 : Array CpInfo := pool [(1, u "java/io/Serializable"), (0, .class_ 1), (0, u "java/lang/Object"), (0, .class_ 3)] 3

/-- java/io/Serializable -/
def k4 : Class := { plain "java/io/Serializable" (some 0) with
  accessFlags := 1537
  interfaces := #[]
  cf := some (fileOf pool4 2 #[] #[] 1537 4 #[] #[])
  fields := #[]
  methods := #[]
  instanceTypes := #[]
  staticTypes := #[]
  resolved := Array.replicate 8 none
  statics := none }

/-- the primitive byte -/
def k5 : Class := { plain "byte" none with kind := .primitive 'B', accessFlags := 0x411 }
/-- [B -/
def k6 : Class := { plain "[B" (some 0) with kind := .array 5 .byte, interfaces := #[3, 4], accessFlags := 1041 }

/-- the primitive int -/
def k7 : Class := { plain "int" none with kind := .primitive 'I', accessFlags := 0x411 }
/-- [I -/
def k8 : Class := { plain "[I" (some 0) with kind := .array 7 .int, interfaces := #[3, 4], accessFlags := 1041 }

def heap : Heap := #[]
def classes : Array Class := #[k0, k1, k2, k3, k4, k5, k6, k7, k8]
def interned : List (Array UInt16 × Addr) := []
def slotsUsed : Nat := 0
def theMethod : MethodId := ⟨1, 1⟩
def args0 : Array Value := #[.long 5, .int 7, .int 7, .int 7, .int 7]
def aboutOver (below : List Frame) : State where
  vm := { classes := classes, interned := interned.toArray }
  heap := heap
  slotsUsed := slotsUsed
  threads := #[{ frames := .invoking theMethod args0 :: below }]
def below0 : List Frame := [.native { method := ⟨0, 0⟩, args := #[] }]
def about1 : State := aboutOver below0
def p0 : Program := .bare "" "" ""
def e0 : Env := launch0.env 0 0 0
theorem w_frames : about1.frames = Frame.invoking theMethod args0 :: below0 := rfl
set_option maxRecDepth 65536 in
theorem w_args : argsFit about1.vm theMethod args0 = true := by decide +kernel
set_option maxRecDepth 65536 in
theorem w_heap : heapFits about1 = true := by decide +kernel
set_option maxRecDepth 65536 in
theorem w_runnable : about1.curStatus? = some .runnable := by decide +kernel
set_option maxRecDepth 65536 in
theorem w_alone : about1.alone = true := by decide +kernel
set_option maxRecDepth 65536 in
theorem w_named : about1.methodNamed? x = some theMethod := by decide +kernel
set_option maxRecDepth 65536 in
theorem w_hears : about1.hears theMethod below0 = true := by decide +kernel
set_option maxRecDepth 65536 in
theorem w_ripe : about1.ripe theMethod args0 below0 = true := by decide +kernel
theorem w_running : about1.status = .running := rfl
set_option maxRecDepth 65536 in
theorem w_room : about1.hasRoom e0.platform room_1 = true :=
  launch0.hasRoom_least _ room_1 (by decide +kernel) (by decide +kernel) (by decide +kernel) (by decide +kernel) (by decide +kernel) (by decide +kernel)
theorem allAtoms_all (ts : List Jvm.Cond) (a : Array Jvm.Value) (st : Jvm.State) : (allAtoms ts).before a st = ts.all (fun c => c.before a st) := by
  induction ts with
  | nil => rfl
  | cons c t ih =>
    show (Jvm.Cond.and c (allAtoms t)).before a st = _
    rw [Jvm.Cond.before_and, ih, List.all_cons]
def words1 : List Jvm.Cond := Jvm.Cond.code x code maxLocals ret :: tables_1
/-- a 'code' word, met by the world's own term for the bytes: nothing is compared byte by byte -/
theorem code_word {y : MethodName} {bytes : ByteArray} {mx : Nat} {rt : Option FieldType} {a : Array Value} {s : State} {m : MethodId} {meth : Method} {c : Code} (h1 : s.methodNamed? y = some m) (h2 : s.vm.method? m = some meth) (h3 : meth.code = some c) (h4 : c.code = bytes)
    (h5 : (c.maxLocals == mx && c.exceptionTable.isEmpty && decide (c.maxStack ≤ mostOperands) && decide (meth.sig.returnType = rt) && !meth.locks && decide (parseMethodDescriptor y.desc = some meth.sig)) = true) : (Jvm.Cond.code y bytes mx rt).before a s = true := by
  simp only [Bool.and_eq_true, beq_iff_eq, Bool.not_eq_true', decide_eq_true_eq] at h5
  obtain ⟨⟨⟨⟨⟨g1, g2⟩, g3⟩, g4⟩, g5⟩, g6⟩ := h5
  simp [Cond.before, Cond.holds, Cond.value, h1, h2, h3, h4, g1, g2, g3, g4, g5, g6]
def isCode : Jvm.Cond → Bool
  | .code _ _ _ _ => true
  | _ => false
theorem all_split {L : List Jvm.Cond} {P : Jvm.Cond → Bool} (h1 : L.all (fun c => isCode c || P c) = true) (h2 : ∀ c ∈ L.filter isCode, P c = true) : L.all P = true := by
  refine List.all_eq_true.mpr fun c hc => ?_
  have h := List.all_eq_true.mp h1 c hc
  rcases Bool.eq_false_or_eq_true (isCode c) with hi | hi
  · exact h2 c (List.mem_filter.mpr ⟨hc, hi⟩)
  · simpa [hi] using h
set_option maxRecDepth 65536 in
theorem w_c0 : (Jvm.Cond.code x code maxLocals ret).before args0 about1 = true := code_word (m := ⟨1, 1⟩) (meth := k1m1) (c := k1c1) (by decide +kernel) rfl rfl rfl (by decide +kernel)
set_option maxRecDepth 65536 in
theorem w_c1 : (Jvm.Cond.code ({ cls := "com/example/assaywire/assaywire/protocol/BytesIndexOfEitherPinLaw", name := "pick", desc := "(JIIBB)B" } : Jvm.MethodName) method_3_code (7 : Nat) (Option.some Jvm.ClassFile.FieldType.byte)).before args0 about1 = true := code_word (m := ⟨1, 2⟩) (meth := k1m2) (c := k1c2) (by decide +kernel) rfl rfl rfl (by decide +kernel)
set_option maxRecDepth 65536 in
theorem w_c2 : (Jvm.Cond.code ({ cls := "com/example/assaywire/assaywire/protocol/Bytes", name := "indexOfEither", desc := "([BBBII)I" } : Jvm.MethodName) prog_82_method_4_code (6 : Nat) (Option.some Jvm.ClassFile.FieldType.int)).before args0 about1 = true := code_word (m := ⟨2, 1⟩) (meth := k2m1) (c := k2c1) (by decide +kernel) rfl rfl rfl (by decide +kernel)
set_option maxRecDepth 65536 in
theorem w_c3 : (Jvm.Cond.code ({ cls := "com/example/assaywire/assaywire/protocol/BytesIndexOfEitherPinLaw", name := "hit", desc := "([BIBBII)Z" } : Jvm.MethodName) method_4_code (6 : Nat) (Option.some Jvm.ClassFile.FieldType.boolean)).before args0 about1 = true := code_word (m := ⟨1, 3⟩) (meth := k1m3) (c := k1c3) (by decide +kernel) rfl rfl rfl (by decide +kernel)
def codes1 : List Jvm.Cond := [Jvm.Cond.code x code maxLocals ret, Jvm.Cond.code ({ cls := "com/example/assaywire/assaywire/protocol/BytesIndexOfEitherPinLaw", name := "pick", desc := "(JIIBB)B" } : Jvm.MethodName) method_3_code (7 : Nat) (Option.some Jvm.ClassFile.FieldType.byte), Jvm.Cond.code ({ cls := "com/example/assaywire/assaywire/protocol/Bytes", name := "indexOfEither", desc := "([BBBII)I" } : Jvm.MethodName) prog_82_method_4_code (6 : Nat) (Option.some Jvm.ClassFile.FieldType.int), Jvm.Cond.code ({ cls := "com/example/assaywire/assaywire/protocol/BytesIndexOfEitherPinLaw", name := "hit", desc := "([BIBBII)Z" } : Jvm.MethodName) method_4_code (6 : Nat) (Option.some Jvm.ClassFile.FieldType.boolean)]
set_option maxRecDepth 65536 in
theorem codes_eq : words1.filter isCode = codes1 := rfl
theorem w_codes : ∀ c ∈ words1.filter isCode, c.before args0 about1 = true := by
  rw [codes_eq]
  intro c hc
  simp only [codes1, List.mem_cons, List.not_mem_nil, or_false] at hc
  rcases hc with rfl | rfl | rfl | rfl
  · exact w_c0
  · exact w_c1
  · exact w_c2
  · exact w_c3
set_option maxRecDepth 65536 in
theorem w_t1 : words1.all (fun c => isCode c || c.before args0 about1) = true := by decide +kernel
theorem w_tables : (allAtoms (Jvm.Cond.code x code maxLocals ret :: tables_1)).before args0 about1 = true := by
  rw [allAtoms_all]
  show words1.all (fun c => c.before args0 about1) = true
  refine all_split ?_ w_codes
  rw [w_t1]
set_option maxRecDepth 65536 in
theorem w_case : (Jvm.Cond.and given_1 narrow_1).before args0 about1 = true := by decide +kernel
theorem w_applies : (headSpec (Jvm.Cond.code x code maxLocals ret :: tables_1) room_1).applies x e0.platform about1 = true :=
  (Spec.applies_iff w_frames).mpr ⟨w_running, w_runnable, w_alone, w_named, w_hears, w_ripe, w_room, w_tables⟩
theorem atStart : AtStart classFile x code maxLocals ret World_1 tables_1 room_1 Calls_1 rest_1 Pre_1 launch0 p0 e0 about1 theMethod args0 below0 :=
  ⟨lists_1, trivial, launch0.admits_env _ _ _, launch0.least_env, fairChoices_fair.cas, fairChoices_fair.clock, w_frames, w_args, w_heap, w_applies, trivial, trivial, w_case⟩
end start1
theorem witness_1 : WitnessClaimed_1 := ⟨start1.p0, start1.e0, start1.about1, start1.theMethod, start1.args0, start1.below0, start1.atStart⟩
end Jvm.Pilot.@@N@@
