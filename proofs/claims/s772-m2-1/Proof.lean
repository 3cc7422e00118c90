import JvmDerived
import JvmDerived.Pilot.@@N@@Statement
import JvmDerived.Pilot.@@N@@Code
set_option linter.unusedVariables false
set_option linter.unusedSimpArgs false
@@BLOCK:NumsL.lean.txt@@
namespace Jvm.RoadKit
open Sem ClassFile Op Lib Jvm.Stand Jvm.Free Jvm.LawKit
section Own
variable {p : Program} {l : Launch} {e : Env} {R : Room} {s : State} {m : MethodId} {args : Array Value} {below : List Frame} {meth : Method} {c : Code} {T : State} {locs : List Loc} {cells slots : Nat}
/-- from t the run ends in a return of which Q holds -/
def OGo (p : Program) (e : Env) (below : List Frame) (s : State) (Q : Option Value → Heap → List Loc → Prop) (C N : Nat) (t : State) : Prop :=
  ∃ s₂ o, Steps p.tables e below t s₂ ∧ s₂.status = .running ∧ Ended s₂ below o ∧ ∃ v L, o = .returned v ∧ Q v s₂.heap L ∧ FrameEnd s o s₂ L C N
theorem OGo.st {Q : Option Value → Heap → List Loc → Prop} {C N : Nat} {t t' : State} (k : ∀ target, Steps p.tables e below t' target → Steps p.tables e below t target) (h : OGo p e below s Q C N t') : OGo p e below s Q C N t := by
  obtain ⟨s₂, o, a, r⟩ := h; exact ⟨s₂, o, k _ a, r⟩
theorem oretW {Q : Option Value → Heap → List Loc → Prop} {C N : Nat} (X : Stand p l e R s m args below meth c T locs cells slots) (hx : p.tables.exec = Jvm.exec) (hlk : meth.locks = false) {pc : Nat} {Ls : Array Slot} {w : Value} {t : FieldType} {i : Instr} {rest : List Value} (hret : meth.sig.returnType = some t) (hn : narrow t w = w)
    (hi : (i = .ireturn ∧ (t = .int ∨ t = .boolean ∨ t = .byte ∨ t = .char ∨ t = .short) ∧ ∃ z, w = .int z) ∨ (i = .lreturn ∧ t = .long ∧ ∃ z, w = .long z) ∨ (i = .dreturn ∧ t = .double ∧ ∃ z, w = .double z) ∨ (i = .freturn ∧ t = .float ∧ ∃ z, w = .float z) ∨ (i = .areturn ∧ t.isReference = true ∧ w.isRef = true))
    (hd : decode c.code pc = .ok (i, 1)) {h : Heap} (hh : T.heap = h) (hq : Q (some w) h locs) (hC : cells ≤ C) (hN : slots ≤ N) : OGo p e below s Q C N (T.setTop (mkF m pc Ls (w :: rest))) := by
  obtain ⟨fs, hr, hrun, hended, hW, hsame⟩ := X.leave (v := some w) (fun h => by rw [hret] at h; cases h) hlk
  exact ⟨_, _, retOut X hx hret hn hi hd hr, hrun, hended, _, _, rfl, hh ▸ hq, ⟨_, rfl⟩, hW, hsame.mono hC hN⟩
theorem oretI {Q : Option Value → Heap → List Loc → Prop} {C N : Nat} (X : Stand p l e R s m args below meth c T locs cells slots) (hx : p.tables.exec = Jvm.exec) (hlk : meth.locks = false) {pc : Nat} {Ls : Array Slot} {z : Int32} {rest : List Value} (hret : meth.sig.returnType = some .int)
    (hd : decode c.code pc = .ok (.ireturn, 1)) {h : Heap} (hh : T.heap = h) (hq : Q (some (.int z)) h locs) (hC : cells ≤ C) (hN : slots ≤ N) : OGo p e below s Q C N (T.setTop (mkF m pc Ls (.int z :: rest))) :=
  oretW X hx hlk hret rfl (Or.inl ⟨rfl, Or.inl rfl, _, rfl⟩) hd hh hq hC hN
theorem oretJ {Q : Option Value → Heap → List Loc → Prop} {C N : Nat} (X : Stand p l e R s m args below meth c T locs cells slots) (hx : p.tables.exec = Jvm.exec) (hlk : meth.locks = false) {pc : Nat} {Ls : Array Slot} {z : Int64} {rest : List Value} (hret : meth.sig.returnType = some .long)
    (hd : decode c.code pc = .ok (.lreturn, 1)) {h : Heap} (hh : T.heap = h) (hq : Q (some (.long z)) h locs) (hC : cells ≤ C) (hN : slots ≤ N) : OGo p e below s Q C N (T.setTop (mkF m pc Ls (.long z :: rest))) :=
  oretW X hx hlk hret rfl (Or.inr (Or.inl ⟨rfl, rfl, _, rfl⟩)) hd hh hq hC hN
theorem onarR {t : FieldType} {w : Value} (ht : t.isReference = true) (hw : w.isRef = true) : narrow t w = w := by
  cases t <;> first | (cases ht; done) | (cases w <;> first | rfl | (cases hw; done))
theorem ofitR {t : FieldType} {w : Value} (ht : t.isReference = true) (hw : w.isRef = true) : fits t w = true := by
  cases t <;> first | (cases ht; done) | (cases w <;> first | rfl | (cases hw; done))
theorem oretA {Q : Option Value → Heap → List Loc → Prop} {C N : Nat} (X : Stand p l e R s m args below meth c T locs cells slots) (hx : p.tables.exec = Jvm.exec) (hlk : meth.locks = false) {pc : Nat} {Ls : Array Slot} {w : Value} {t : FieldType} {rest : List Value} (hret : meth.sig.returnType = some t) (ht : t.isReference = true) (hw : w.isRef = true)
    (hd : decode c.code pc = .ok (.areturn, 1)) {h : Heap} (hh : T.heap = h) (hq : Q (some w) h locs) (hC : cells ≤ C) (hN : slots ≤ N) : OGo p e below s Q C N (T.setTop (mkF m pc Ls (w :: rest))) :=
  oretW X hx hlk hret (onarR ht hw) (Or.inr (Or.inr (Or.inr (Or.inr ⟨rfl, ht, hw⟩)))) hd hh hq hC hN
theorem oretN {Q : Option Value → Heap → List Loc → Prop} {C N : Nat} (X : Stand p l e R s m args below meth c T locs cells slots) (hx : p.tables.exec = Jvm.exec) (hlk : meth.locks = false) {pc : Nat} {Ls : Array Slot} {z z' : Int32} {t : FieldType} {rest : List Value} (hret : meth.sig.returnType = some t) (ht : t = .boolean ∨ t = .byte ∨ t = .char ∨ t = .short)
    (hd : decode c.code pc = .ok (.ireturn, 1)) (hz : nar t z = z') {h : Heap} (hh : T.heap = h) (hq : Q (some (.int z')) h locs) (hC : cells ≤ C) (hN : slots ≤ N) : OGo p e below s Q C N (T.setTop (mkF m pc Ls (.int z :: rest))) := by
  subst hz
  obtain ⟨fs, hr, hrun, hended, hW, hsame⟩ := X.leave (v := some (.int (nar t z))) (fun h => by rw [hret] at h; cases h) hlk
  exact ⟨_, _, retN X hx hret ht hd hr, hrun, hended, _, _, rfl, hh ▸ hq, ⟨_, rfl⟩, hW, hsame.mono hC hN⟩
theorem oret0 {Q : Option Value → Heap → List Loc → Prop} {C N : Nat} (X : Stand p l e R s m args below meth c T locs cells slots) (hx : p.tables.exec = Jvm.exec) (hlk : meth.locks = false) {pc : Nat} {Ls : Array Slot} (hret : meth.sig.returnType = none)
    (hd : decode c.code pc = .ok (.return_, 1)) {h : Heap} (hh : T.heap = h) (hq : Q none h locs) (hC : cells ≤ C) (hN : slots ≤ N) : OGo p e below s Q C N (T.setTop (mkF m pc Ls [])) := by
  obtain ⟨fs, hr, hrun, hended, hW, hsame⟩ := X.leave (v := none) (fun _ => rfl) hlk
  exact ⟨_, _, X.returnOut hx hret hd hr, hrun, hended, _, _, rfl, hh ▸ hq, ⟨_, rfl⟩, hW, hsame.mono hC hN⟩
theorem olrem {tb : Tables} [Ours tb] {target : State} {g : JFrame} (h : At T m c below) (hx : tb.exec = Jvm.exec) (hg : g.method = m) {x y : Int64} {rest : List Value} (hd : decode c.code g.pc = .ok (.lrem, 1)) (hs : g.stack = .long y :: .long x :: rest) (hy : y ≠ 0)
    (hr : Steps tb e below (T.setTop { g with pc := g.pc + 1, stack := .long (x % y) :: rest }) target) : Steps tb e below (T.setTop g) target :=
  XS.lrem h hx hg hd hs hy (by rw [lrem_mod]; exact hr)
theorem olc_lt (x y : Int64) : lcmpW x y < 0 ↔ x < y := by rw [lcW]; exact lc_lt x y
theorem olc_gt (x y : Int64) : 0 < lcmpW x y ↔ y < x := by rw [lcW]; exact lc_gt x y
theorem olc_eq (x y : Int64) : lcmpW x y = 0 ↔ x = y := by rw [lcW]; exact lc_eq x y
theorem onilP {v : Int} : ∀ q ∈ ([] : List (Int × Int)), q.1 ≠ v := fun _ q => nomatch q
theorem oconsP {v a b : Int} {l : List (Int × Int)} (h : a ≠ v) (t : ∀ q ∈ l, q.1 ≠ v) : ∀ q ∈ (a, b) :: l, q.1 ≠ v := fun q hq => (List.mem_cons.mp hq).elim (fun u => by rw [u]; exact h) (t q)
theorem oint_ne {z k : Int32} {K : Int} (h : ¬ z = k) (hk : k.toInt = K) : K ≠ z.toInt := fun q => h (Int32.toInt_inj.mp (by rw [hk, q]))
theorem ofld_eq {Z : State} {t : Term} {C n d : String} {a : Addr} {k : Int32} (h : (Cond.eq (Term.field t C n d) (Term.int k)).value args Z none Z [] = some true) (ev : t.eval args Z none [] Z = some (.ref a)) : Fld Z Z.heap a C n d (.int k) := by
  apply Fld.start
  have q := fld_at (args := args) (first := Z) (o := none) (idx := []) (s := Z) (C := C) (n := n) (dd := d) ev
  simp only [Cond.value, q, Term.int_eval] at h
  cases hv : Z.fieldOf? a C n d with
  | none => simp [hv] at h
  | some v => cases v <;> simp [hv] at h <;> simp [h]
section Imp
variable {E a b : Int32}
theorem oLL (h : E < a) (k : a.toInt ≤ b.toInt) : E < b := by rw [Int32.lt_iff_toInt_lt] at *; omega
theorem oLnG (h : E < a) (k : a.toInt ≤ b.toInt + 1) : ¬ b < E := by rw [Int32.lt_iff_toInt_lt] at *; omega
theorem oLnE (h : E < a) (k : a.toInt ≤ b.toInt) : ¬ E = b := fun q => by subst q; rw [Int32.lt_iff_toInt_lt] at h; omega
theorem oGG (h : a < E) (k : b.toInt ≤ a.toInt) : b < E := by rw [Int32.lt_iff_toInt_lt] at *; omega
theorem oGnL (h : a < E) (k : b.toInt ≤ a.toInt + 1) : ¬ E < b := by rw [Int32.lt_iff_toInt_lt] at *; omega
theorem oGnE (h : a < E) (k : b.toInt ≤ a.toInt) : ¬ E = b := fun q => by subst q; rw [Int32.lt_iff_toInt_lt] at h; omega
theorem onLnL (h : ¬ E < a) (k : b.toInt ≤ a.toInt) : ¬ E < b := by rw [Int32.lt_iff_toInt_lt] at *; omega
theorem onLG (h : ¬ E < a) (k : b.toInt < a.toInt) : b < E := by rw [Int32.lt_iff_toInt_lt] at *; omega
theorem onLnE (h : ¬ E < a) (k : b.toInt < a.toInt) : ¬ E = b := fun q => by subst q; rw [Int32.lt_iff_toInt_lt] at h; omega
theorem onGnG (h : ¬ a < E) (k : a.toInt ≤ b.toInt) : ¬ b < E := by rw [Int32.lt_iff_toInt_lt] at *; omega
theorem onGL (h : ¬ a < E) (k : a.toInt < b.toInt) : E < b := by rw [Int32.lt_iff_toInt_lt] at *; omega
theorem onGnE (h : ¬ a < E) (k : a.toInt < b.toInt) : ¬ E = b := fun q => by subst q; rw [Int32.lt_iff_toInt_lt] at h; omega
end Imp
end Own
end Jvm.RoadKit
namespace Jvm.Pilot.@@N@@
open Jvm Jvm.ClassFile Sem Op Lib Jvm.Free Jvm.Stand Jvm.LawKit Jvm.RoadKit Bundle Jvm.Pilot.@@N@@.Jvm.D

theorem d1_0 : decode prog_15_method_8_code 0 = .ok (.lload_n 0, 1) := by decide +kernel
theorem d1_1 : decode prog_15_method_8_code 1 = .ok (.lstore_n 2, 1) := by decide +kernel
theorem d1_2 : decode prog_15_method_8_code 2 = .ok (.lload_n 2, 1) := by decide +kernel
theorem d1_3 : decode prog_15_method_8_code 3 = .ok (.lload_n 2, 1) := by decide +kernel
theorem d1_4 : decode prog_15_method_8_code 4 = .ok (.bipush 33, 2) := by decide +kernel
theorem d1_6 : decode prog_15_method_8_code 6 = .ok (.lushr, 1) := by decide +kernel
theorem d1_7 : decode prog_15_method_8_code 7 = .ok (.lxor, 1) := by decide +kernel
theorem d1_8 : decode prog_15_method_8_code 8 = .ok (.lstore_n 2, 1) := by decide +kernel
theorem d1_9 : decode prog_15_method_8_code 9 = .ok (.lload_n 2, 1) := by decide +kernel
theorem d1_10 : decode prog_15_method_8_code 10 = .ok (.ldc2_w 74, 3) := by decide +kernel
theorem d1_13 : decode prog_15_method_8_code 13 = .ok (.lmul, 1) := by decide +kernel
theorem d1_14 : decode prog_15_method_8_code 14 = .ok (.lstore_n 2, 1) := by decide +kernel
theorem d1_15 : decode prog_15_method_8_code 15 = .ok (.lload_n 2, 1) := by decide +kernel
theorem d1_16 : decode prog_15_method_8_code 16 = .ok (.lload_n 2, 1) := by decide +kernel
theorem d1_17 : decode prog_15_method_8_code 17 = .ok (.bipush 33, 2) := by decide +kernel
theorem d1_19 : decode prog_15_method_8_code 19 = .ok (.lushr, 1) := by decide +kernel
theorem d1_20 : decode prog_15_method_8_code 20 = .ok (.lxor, 1) := by decide +kernel
theorem d1_21 : decode prog_15_method_8_code 21 = .ok (.lstore_n 2, 1) := by decide +kernel
theorem d1_22 : decode prog_15_method_8_code 22 = .ok (.lload_n 2, 1) := by decide +kernel
theorem d1_23 : decode prog_15_method_8_code 23 = .ok (.ldc2_w 76, 3) := by decide +kernel
theorem d1_26 : decode prog_15_method_8_code 26 = .ok (.lmul, 1) := by decide +kernel
theorem d1_27 : decode prog_15_method_8_code 27 = .ok (.lstore_n 2, 1) := by decide +kernel
theorem d1_28 : decode prog_15_method_8_code 28 = .ok (.lload_n 2, 1) := by decide +kernel
theorem d1_29 : decode prog_15_method_8_code 29 = .ok (.lload_n 2, 1) := by decide +kernel
theorem d1_30 : decode prog_15_method_8_code 30 = .ok (.bipush 33, 2) := by decide +kernel
theorem d1_32 : decode prog_15_method_8_code 32 = .ok (.lushr, 1) := by decide +kernel
theorem d1_33 : decode prog_15_method_8_code 33 = .ok (.lxor, 1) := by decide +kernel
theorem d1_34 : decode prog_15_method_8_code 34 = .ok (.lstore_n 2, 1) := by decide +kernel
theorem d1_35 : decode prog_15_method_8_code 35 = .ok (.lload_n 2, 1) := by decide +kernel
theorem d1_36 : decode prog_15_method_8_code 36 = .ok (.lreturn, 1) := by decide +kernel
theorem pn_1 : plainName "com/example/hazy_set/hazyset/MurmurHash3" = true := by first | (simp [plainName, overriddenIn]; done) | decide +kernel
theorem ef_1 (m : MethodId) (q0 : Int64) : entryFrame m #[(.long q0)] 4 = mkF m 0 #[.val (.long q0), .second, .unset, .unset] [] := by first | (simp [entryFrame, mkF, argsToLocals, Value.category]; done) | rfl
def v1_0 (q0 : Int64) : Int64 := (q0 ^^^ ((q0.toUInt64 >>> ((33 : Int32) &&& 0x3f).toInt64.toUInt64).toInt64))
def v1_1 (q0 : Int64) : Int64 := (((v1_0 q0) * (-49064778989728563 : Int64)) ^^^ ((((v1_0 q0) * (-49064778989728563 : Int64)).toUInt64 >>> ((33 : Int32) &&& 0x3f).toInt64.toUInt64).toInt64))
def v1_2 (q0 : Int64) : Int64 := (((v1_1 q0) * (-4265267296055464877 : Int64)) ^^^ ((((v1_1 q0) * (-4265267296055464877 : Int64)).toUInt64 >>> ((33 : Int32) &&& 0x3f).toInt64.toUInt64).toInt64))
def f1 (q0 : Int64) : Int64 := (v1_2 q0)
def Q1 (Z : State) (q0 : Int64) (h0 : Heap) (n0 : Nat) (v : Option Value) (h : Heap) (L : List Loc) : Prop := v = some (.long (f1 q0)) ∧ Fr n0 L ∧ h = h0
set_option maxRecDepth 65536 in
set_option maxHeartbeats 40000000 in
theorem rm1 (l : Launch) (Z : State) (a0 : Array Value) (hw : ∀ d ∈ tables_1, d.before a0 Z = true) (ws : List Jvm.Cond) (q0 : Int64) (h0 : Heap) (n0 : Nat) (Z0 : n0 ≤ h0.size) :
    MetFree l (⟨"com/example/hazy_set/hazyset/MurmurHash3", "finalMix", "(J)J"⟩ : MethodName) (head1 (Jvm.Cond.code (⟨"com/example/hazy_set/hazyset/MurmurHash3", "finalMix", "(J)J"⟩ : MethodName) prog_15_method_8_code 4 (some .long) :: ws) ({ frames := 0, cells := 0, slots := 0, locals := 0 } : Room)) (fun a U => a = #[(.long q0)] ∧ Z.Warmed39 U.vm ∧ U.heap = h0) (fun _ _ _ _ _ => True) (fun _ U o U' => ∃ v L, o = .returned v ∧ Q1 Z q0 h0 n0 v U'.heap L ∧ FrameEnd U o U' L ({ frames := 0, cells := 0, slots := 0, locals := 0 } : Room).cells ({ frames := 0, cells := 0, slots := 0, locals := 0 } : Room).slots) := by
  refine MetFree.of_bodySF (plainFor_of_name pn_1) hisR ?_
  intro p e s m args below meth c s₁ Bd hml0 hP hK
  obtain ⟨rfl, hZ, hh⟩ := hP
  have hx := Bd.exec
  have hby := Bd.bytes
  have hml : c.maxLocals = 4 := hml0
  have hown : s.vm.findClass "com/example/hazy_set/hazyset/MurmurHash3" = some m.cls := findClass_of_methodNamed Bd.named
  have hnm := (name_of_methodNamed Bd.named Bd.method).1
  have X0 : Stand p l e ({ frames := 0, cells := 0, slots := 0, locals := 0 } : Room) s m #[(.long q0)] below meth c s₁ [] 0 0 := Stand.of_body Bd
  have e0 : s₁.heap = h0 := by rw [← hh, Bd.state]; rfl
  have N0 := Fr.nil n0
  show OGo p e below s (Q1 Z q0 h0 n0) ({ frames := 0, cells := 0, slots := 0, locals := 0 } : Room).cells ({ frames := 0, cells := 0, slots := 0, locals := 0 } : Room).slots _
  refine OGo.st (fun _ k => castTop (ef_1 m q0) k) ?_
  show OGo p e below s _ _ _ (s₁.setTop (mkF m 0 #[.val (.long q0), .second, .unset, .unset] []))
  refine OGo.st (fun _ k => XS.lloadN X0.here hx rfl (hb hby d1_0) rfl k) ?_
  show OGo p e below s _ _ _ (s₁.setTop (mkF m 1 #[.val (.long q0), .second, .unset, .unset] [(.long q0)]))
  refine OGo.st (fun _ k => XS.lstoreN X0.here hx rfl (hb hby d1_1) rfl (l' := #[.val (.long q0), .second, .val (.long q0), .second]) rfl k) ?_
  show OGo p e below s _ _ _ (s₁.setTop (mkF m 2 #[.val (.long q0), .second, .val (.long q0), .second] []))
  refine OGo.st (fun _ k => XS.lloadN X0.here hx rfl (hb hby d1_2) rfl k) ?_
  show OGo p e below s _ _ _ (s₁.setTop (mkF m 3 #[.val (.long q0), .second, .val (.long q0), .second] [(.long q0)]))
  refine OGo.st (fun _ k => XS.lloadN X0.here hx rfl (hb hby d1_3) rfl k) ?_
  show OGo p e below s _ _ _ (s₁.setTop (mkF m 4 #[.val (.long q0), .second, .val (.long q0), .second] [(.long q0), (.long q0)]))
  refine OGo.st (fun _ k => XS.bipush X0.here hx rfl (hb hby d1_4) k) ?_
  show OGo p e below s _ _ _ (s₁.setTop (mkF m 6 #[.val (.long q0), .second, .val (.long q0), .second] [(.int (33 : Int32)), (.long q0), (.long q0)]))
  refine OGo.st (fun _ k => XS.lushr X0.here hx rfl (hb hby d1_6) rfl k) ?_
  show OGo p e below s _ _ _ (s₁.setTop (mkF m 7 #[.val (.long q0), .second, .val (.long q0), .second] [(.long ((q0.toUInt64 >>> ((33 : Int32) &&& 0x3f).toInt64.toUInt64).toInt64)), (.long q0)]))
  refine OGo.st (fun _ k => XS.lxor X0.here hx rfl (hb hby d1_7) rfl k) ?_
  show OGo p e below s _ _ _ (s₁.setTop (mkF m 8 #[.val (.long q0), .second, .val (.long q0), .second] [(.long (q0 ^^^ ((q0.toUInt64 >>> ((33 : Int32) &&& 0x3f).toInt64.toUInt64).toInt64)))]))
  refine OGo.st (fun _ k => XS.lstoreN X0.here hx rfl (hb hby d1_8) rfl (l' := #[.val (.long q0), .second, .val (.long (v1_0 q0)), .second]) rfl k) ?_
  show OGo p e below s _ _ _ (s₁.setTop (mkF m 9 #[.val (.long q0), .second, .val (.long (v1_0 q0)), .second] []))
  refine OGo.st (fun _ k => XS.lloadN X0.here hx rfl (hb hby d1_9) rfl k) ?_
  show OGo p e below s _ _ _ (s₁.setTop (mkF m 10 #[.val (.long q0), .second, .val (.long (v1_0 q0)), .second] [(.long (v1_0 q0))]))
  refine OGo.st (fun _ k => X0.ldc2Long hx hown (mvT hZ (hw _ (List.mem_of_getElem? (i := 4) rfl))) (g := (mkF m 10 #[.val (.long q0), .second, .val (.long (v1_0 q0)), .second] [(.long (v1_0 q0))])) rfl (hb hby d1_10) _ k) ?_
  show OGo p e below s _ _ _ (s₁.setTop (mkF m 13 #[.val (.long q0), .second, .val (.long (v1_0 q0)), .second] [(.long (-49064778989728563 : Int64)), (.long (v1_0 q0))]))
  refine OGo.st (fun _ k => XS.lmul X0.here hx rfl (hb hby d1_13) rfl k) ?_
  show OGo p e below s _ _ _ (s₁.setTop (mkF m 14 #[.val (.long q0), .second, .val (.long (v1_0 q0)), .second] [(.long ((v1_0 q0) * (-49064778989728563 : Int64)))]))
  refine OGo.st (fun _ k => XS.lstoreN X0.here hx rfl (hb hby d1_14) rfl (l' := #[.val (.long q0), .second, .val (.long ((v1_0 q0) * (-49064778989728563 : Int64))), .second]) rfl k) ?_
  show OGo p e below s _ _ _ (s₁.setTop (mkF m 15 #[.val (.long q0), .second, .val (.long ((v1_0 q0) * (-49064778989728563 : Int64))), .second] []))
  refine OGo.st (fun _ k => XS.lloadN X0.here hx rfl (hb hby d1_15) rfl k) ?_
  show OGo p e below s _ _ _ (s₁.setTop (mkF m 16 #[.val (.long q0), .second, .val (.long ((v1_0 q0) * (-49064778989728563 : Int64))), .second] [(.long ((v1_0 q0) * (-49064778989728563 : Int64)))]))
  refine OGo.st (fun _ k => XS.lloadN X0.here hx rfl (hb hby d1_16) rfl k) ?_
  show OGo p e below s _ _ _ (s₁.setTop (mkF m 17 #[.val (.long q0), .second, .val (.long ((v1_0 q0) * (-49064778989728563 : Int64))), .second] [(.long ((v1_0 q0) * (-49064778989728563 : Int64))), (.long ((v1_0 q0) * (-49064778989728563 : Int64)))]))
  refine OGo.st (fun _ k => XS.bipush X0.here hx rfl (hb hby d1_17) k) ?_
  show OGo p e below s _ _ _ (s₁.setTop (mkF m 19 #[.val (.long q0), .second, .val (.long ((v1_0 q0) * (-49064778989728563 : Int64))), .second] [(.int (33 : Int32)), (.long ((v1_0 q0) * (-49064778989728563 : Int64))), (.long ((v1_0 q0) * (-49064778989728563 : Int64)))]))
  refine OGo.st (fun _ k => XS.lushr X0.here hx rfl (hb hby d1_19) rfl k) ?_
  show OGo p e below s _ _ _ (s₁.setTop (mkF m 20 #[.val (.long q0), .second, .val (.long ((v1_0 q0) * (-49064778989728563 : Int64))), .second] [(.long ((((v1_0 q0) * (-49064778989728563 : Int64)).toUInt64 >>> ((33 : Int32) &&& 0x3f).toInt64.toUInt64).toInt64)), (.long ((v1_0 q0) * (-49064778989728563 : Int64)))]))
  refine OGo.st (fun _ k => XS.lxor X0.here hx rfl (hb hby d1_20) rfl k) ?_
  show OGo p e below s _ _ _ (s₁.setTop (mkF m 21 #[.val (.long q0), .second, .val (.long ((v1_0 q0) * (-49064778989728563 : Int64))), .second] [(.long (((v1_0 q0) * (-49064778989728563 : Int64)) ^^^ ((((v1_0 q0) * (-49064778989728563 : Int64)).toUInt64 >>> ((33 : Int32) &&& 0x3f).toInt64.toUInt64).toInt64)))]))
  refine OGo.st (fun _ k => XS.lstoreN X0.here hx rfl (hb hby d1_21) rfl (l' := #[.val (.long q0), .second, .val (.long (v1_1 q0)), .second]) rfl k) ?_
  show OGo p e below s _ _ _ (s₁.setTop (mkF m 22 #[.val (.long q0), .second, .val (.long (v1_1 q0)), .second] []))
  refine OGo.st (fun _ k => XS.lloadN X0.here hx rfl (hb hby d1_22) rfl k) ?_
  show OGo p e below s _ _ _ (s₁.setTop (mkF m 23 #[.val (.long q0), .second, .val (.long (v1_1 q0)), .second] [(.long (v1_1 q0))]))
  refine OGo.st (fun _ k => X0.ldc2Long hx hown (mvT hZ (hw _ (List.mem_of_getElem? (i := 5) rfl))) (g := (mkF m 23 #[.val (.long q0), .second, .val (.long (v1_1 q0)), .second] [(.long (v1_1 q0))])) rfl (hb hby d1_23) _ k) ?_
  show OGo p e below s _ _ _ (s₁.setTop (mkF m 26 #[.val (.long q0), .second, .val (.long (v1_1 q0)), .second] [(.long (-4265267296055464877 : Int64)), (.long (v1_1 q0))]))
  refine OGo.st (fun _ k => XS.lmul X0.here hx rfl (hb hby d1_26) rfl k) ?_
  show OGo p e below s _ _ _ (s₁.setTop (mkF m 27 #[.val (.long q0), .second, .val (.long (v1_1 q0)), .second] [(.long ((v1_1 q0) * (-4265267296055464877 : Int64)))]))
  refine OGo.st (fun _ k => XS.lstoreN X0.here hx rfl (hb hby d1_27) rfl (l' := #[.val (.long q0), .second, .val (.long ((v1_1 q0) * (-4265267296055464877 : Int64))), .second]) rfl k) ?_
  show OGo p e below s _ _ _ (s₁.setTop (mkF m 28 #[.val (.long q0), .second, .val (.long ((v1_1 q0) * (-4265267296055464877 : Int64))), .second] []))
  refine OGo.st (fun _ k => XS.lloadN X0.here hx rfl (hb hby d1_28) rfl k) ?_
  show OGo p e below s _ _ _ (s₁.setTop (mkF m 29 #[.val (.long q0), .second, .val (.long ((v1_1 q0) * (-4265267296055464877 : Int64))), .second] [(.long ((v1_1 q0) * (-4265267296055464877 : Int64)))]))
  refine OGo.st (fun _ k => XS.lloadN X0.here hx rfl (hb hby d1_29) rfl k) ?_
  show OGo p e below s _ _ _ (s₁.setTop (mkF m 30 #[.val (.long q0), .second, .val (.long ((v1_1 q0) * (-4265267296055464877 : Int64))), .second] [(.long ((v1_1 q0) * (-4265267296055464877 : Int64))), (.long ((v1_1 q0) * (-4265267296055464877 : Int64)))]))
  refine OGo.st (fun _ k => XS.bipush X0.here hx rfl (hb hby d1_30) k) ?_
  show OGo p e below s _ _ _ (s₁.setTop (mkF m 32 #[.val (.long q0), .second, .val (.long ((v1_1 q0) * (-4265267296055464877 : Int64))), .second] [(.int (33 : Int32)), (.long ((v1_1 q0) * (-4265267296055464877 : Int64))), (.long ((v1_1 q0) * (-4265267296055464877 : Int64)))]))
  refine OGo.st (fun _ k => XS.lushr X0.here hx rfl (hb hby d1_32) rfl k) ?_
  show OGo p e below s _ _ _ (s₁.setTop (mkF m 33 #[.val (.long q0), .second, .val (.long ((v1_1 q0) * (-4265267296055464877 : Int64))), .second] [(.long ((((v1_1 q0) * (-4265267296055464877 : Int64)).toUInt64 >>> ((33 : Int32) &&& 0x3f).toInt64.toUInt64).toInt64)), (.long ((v1_1 q0) * (-4265267296055464877 : Int64)))]))
  refine OGo.st (fun _ k => XS.lxor X0.here hx rfl (hb hby d1_33) rfl k) ?_
  show OGo p e below s _ _ _ (s₁.setTop (mkF m 34 #[.val (.long q0), .second, .val (.long ((v1_1 q0) * (-4265267296055464877 : Int64))), .second] [(.long (((v1_1 q0) * (-4265267296055464877 : Int64)) ^^^ ((((v1_1 q0) * (-4265267296055464877 : Int64)).toUInt64 >>> ((33 : Int32) &&& 0x3f).toInt64.toUInt64).toInt64)))]))
  refine OGo.st (fun _ k => XS.lstoreN X0.here hx rfl (hb hby d1_34) rfl (l' := #[.val (.long q0), .second, .val (.long (v1_2 q0)), .second]) rfl k) ?_
  show OGo p e below s _ _ _ (s₁.setTop (mkF m 35 #[.val (.long q0), .second, .val (.long (v1_2 q0)), .second] []))
  refine OGo.st (fun _ k => XS.lloadN X0.here hx rfl (hb hby d1_35) rfl k) ?_
  show OGo p e below s _ _ _ (s₁.setTop (mkF m 36 #[.val (.long q0), .second, .val (.long (v1_2 q0)), .second] [(.long (v1_2 q0))]))
  exact oretJ X0 hx Bd.notSynchronized Bd.returns (hb hby d1_36) e0 ⟨(congrArg (fun z => some (Value.long z)) (show (v1_2 q0) = f1 q0 from Eq.symm (by unfold f1; exact rfl))), N0, rfl⟩ (by decide) (by decide)
theorem d3_0 : decode method_2_code 0 = .ok (.lload_n 0, 1) := by decide +kernel
theorem d3_1 : decode method_2_code 1 = .ok (.lstore_n 2, 1) := by decide +kernel
theorem d3_2 : decode method_2_code 2 = .ok (.lload_n 2, 1) := by decide +kernel
theorem d3_3 : decode method_2_code 3 = .ok (.ldc2_w 7, 3) := by decide +kernel
theorem d3_6 : decode method_2_code 6 = .ok (.lload_n 0, 1) := by decide +kernel
theorem d3_7 : decode method_2_code 7 = .ok (.lload_n 2, 1) := by decide +kernel
theorem d3_8 : decode method_2_code 8 = .ok (.lmul, 1) := by decide +kernel
theorem d3_9 : decode method_2_code 9 = .ok (.lsub, 1) := by decide +kernel
theorem d3_10 : decode method_2_code 10 = .ok (.lmul, 1) := by decide +kernel
theorem d3_11 : decode method_2_code 11 = .ok (.lstore_n 2, 1) := by decide +kernel
theorem d3_12 : decode method_2_code 12 = .ok (.lload_n 2, 1) := by decide +kernel
theorem d3_13 : decode method_2_code 13 = .ok (.ldc2_w 7, 3) := by decide +kernel
theorem d3_16 : decode method_2_code 16 = .ok (.lload_n 0, 1) := by decide +kernel
theorem d3_17 : decode method_2_code 17 = .ok (.lload_n 2, 1) := by decide +kernel
theorem d3_18 : decode method_2_code 18 = .ok (.lmul, 1) := by decide +kernel
theorem d3_19 : decode method_2_code 19 = .ok (.lsub, 1) := by decide +kernel
theorem d3_20 : decode method_2_code 20 = .ok (.lmul, 1) := by decide +kernel
theorem d3_21 : decode method_2_code 21 = .ok (.lstore_n 2, 1) := by decide +kernel
theorem d3_22 : decode method_2_code 22 = .ok (.lload_n 2, 1) := by decide +kernel
theorem d3_23 : decode method_2_code 23 = .ok (.ldc2_w 7, 3) := by decide +kernel
theorem d3_26 : decode method_2_code 26 = .ok (.lload_n 0, 1) := by decide +kernel
theorem d3_27 : decode method_2_code 27 = .ok (.lload_n 2, 1) := by decide +kernel
theorem d3_28 : decode method_2_code 28 = .ok (.lmul, 1) := by decide +kernel
theorem d3_29 : decode method_2_code 29 = .ok (.lsub, 1) := by decide +kernel
theorem d3_30 : decode method_2_code 30 = .ok (.lmul, 1) := by decide +kernel
theorem d3_31 : decode method_2_code 31 = .ok (.lstore_n 2, 1) := by decide +kernel
theorem d3_32 : decode method_2_code 32 = .ok (.lload_n 2, 1) := by decide +kernel
theorem d3_33 : decode method_2_code 33 = .ok (.ldc2_w 7, 3) := by decide +kernel
theorem d3_36 : decode method_2_code 36 = .ok (.lload_n 0, 1) := by decide +kernel
theorem d3_37 : decode method_2_code 37 = .ok (.lload_n 2, 1) := by decide +kernel
theorem d3_38 : decode method_2_code 38 = .ok (.lmul, 1) := by decide +kernel
theorem d3_39 : decode method_2_code 39 = .ok (.lsub, 1) := by decide +kernel
theorem d3_40 : decode method_2_code 40 = .ok (.lmul, 1) := by decide +kernel
theorem d3_41 : decode method_2_code 41 = .ok (.lstore_n 2, 1) := by decide +kernel
theorem d3_42 : decode method_2_code 42 = .ok (.lload_n 2, 1) := by decide +kernel
theorem d3_43 : decode method_2_code 43 = .ok (.ldc2_w 7, 3) := by decide +kernel
theorem d3_46 : decode method_2_code 46 = .ok (.lload_n 0, 1) := by decide +kernel
theorem d3_47 : decode method_2_code 47 = .ok (.lload_n 2, 1) := by decide +kernel
theorem d3_48 : decode method_2_code 48 = .ok (.lmul, 1) := by decide +kernel
theorem d3_49 : decode method_2_code 49 = .ok (.lsub, 1) := by decide +kernel
theorem d3_50 : decode method_2_code 50 = .ok (.lmul, 1) := by decide +kernel
theorem d3_51 : decode method_2_code 51 = .ok (.lstore_n 2, 1) := by decide +kernel
theorem d3_52 : decode method_2_code 52 = .ok (.lload_n 2, 1) := by decide +kernel
theorem d3_53 : decode method_2_code 53 = .ok (.lreturn, 1) := by decide +kernel
theorem pn_3 : plainName "com/example/hazy_set/hazyset/MurmurHash3FinalMixPinLaw" = true := by first | (simp [plainName, overriddenIn]; done) | decide +kernel
theorem ef_3 (m : MethodId) (q0 : Int64) : entryFrame m #[(.long q0)] 4 = mkF m 0 #[.val (.long q0), .second, .unset, .unset] [] := by first | (simp [entryFrame, mkF, argsToLocals, Value.category]; done) | rfl
def v3_0 (q0 : Int64) : Int64 := ((q0 * ((2 : Int64) - (q0 * q0))) * ((2 : Int64) - (q0 * (q0 * ((2 : Int64) - (q0 * q0))))))
def v3_1 (q0 : Int64) : Int64 := (((v3_0 q0) * ((2 : Int64) - (q0 * (v3_0 q0)))) * ((2 : Int64) - (q0 * ((v3_0 q0) * ((2 : Int64) - (q0 * (v3_0 q0)))))))
def f3 (q0 : Int64) : Int64 := ((v3_1 q0) * ((2 : Int64) - (q0 * (v3_1 q0))))
def Q3 (Z : State) (q0 : Int64) (h0 : Heap) (n0 : Nat) (v : Option Value) (h : Heap) (L : List Loc) : Prop := v = some (.long (f3 q0)) ∧ Fr n0 L ∧ h = h0
set_option maxRecDepth 65536 in
set_option maxHeartbeats 40000000 in
theorem rm3 (l : Launch) (Z : State) (a0 : Array Value) (hw : ∀ d ∈ tables_1, d.before a0 Z = true) (ws : List Jvm.Cond) (q0 : Int64) (h0 : Heap) (n0 : Nat) (Z0 : n0 ≤ h0.size) :
    MetFree l (⟨"com/example/hazy_set/hazyset/MurmurHash3FinalMixPinLaw", "inverseOdd", "(J)J"⟩ : MethodName) (head1 (Jvm.Cond.code (⟨"com/example/hazy_set/hazyset/MurmurHash3FinalMixPinLaw", "inverseOdd", "(J)J"⟩ : MethodName) method_2_code 4 (some .long) :: ws) ({ frames := 0, cells := 0, slots := 0, locals := 0 } : Room)) (fun a U => a = #[(.long q0)] ∧ Z.Warmed39 U.vm ∧ U.heap = h0) (fun _ _ _ _ _ => True) (fun _ U o U' => ∃ v L, o = .returned v ∧ Q3 Z q0 h0 n0 v U'.heap L ∧ FrameEnd U o U' L ({ frames := 0, cells := 0, slots := 0, locals := 0 } : Room).cells ({ frames := 0, cells := 0, slots := 0, locals := 0 } : Room).slots) := by
  refine MetFree.of_bodySF (plainFor_of_name pn_3) hisR ?_
  intro p e s m args below meth c s₁ Bd hml0 hP hK
  obtain ⟨rfl, hZ, hh⟩ := hP
  have hx := Bd.exec
  have hby := Bd.bytes
  have hml : c.maxLocals = 4 := hml0
  have hown : s.vm.findClass "com/example/hazy_set/hazyset/MurmurHash3FinalMixPinLaw" = some m.cls := findClass_of_methodNamed Bd.named
  have hnm := (name_of_methodNamed Bd.named Bd.method).1
  have X0 : Stand p l e ({ frames := 0, cells := 0, slots := 0, locals := 0 } : Room) s m #[(.long q0)] below meth c s₁ [] 0 0 := Stand.of_body Bd
  have e0 : s₁.heap = h0 := by rw [← hh, Bd.state]; rfl
  have N0 := Fr.nil n0
  show OGo p e below s (Q3 Z q0 h0 n0) ({ frames := 0, cells := 0, slots := 0, locals := 0 } : Room).cells ({ frames := 0, cells := 0, slots := 0, locals := 0 } : Room).slots _
  refine OGo.st (fun _ k => castTop (ef_3 m q0) k) ?_
  show OGo p e below s _ _ _ (s₁.setTop (mkF m 0 #[.val (.long q0), .second, .unset, .unset] []))
  refine OGo.st (fun _ k => XS.lloadN X0.here hx rfl (hb hby d3_0) rfl k) ?_
  show OGo p e below s _ _ _ (s₁.setTop (mkF m 1 #[.val (.long q0), .second, .unset, .unset] [(.long q0)]))
  refine OGo.st (fun _ k => XS.lstoreN X0.here hx rfl (hb hby d3_1) rfl (l' := #[.val (.long q0), .second, .val (.long q0), .second]) rfl k) ?_
  show OGo p e below s _ _ _ (s₁.setTop (mkF m 2 #[.val (.long q0), .second, .val (.long q0), .second] []))
  refine OGo.st (fun _ k => XS.lloadN X0.here hx rfl (hb hby d3_2) rfl k) ?_
  show OGo p e below s _ _ _ (s₁.setTop (mkF m 3 #[.val (.long q0), .second, .val (.long q0), .second] [(.long q0)]))
  refine OGo.st (fun _ k => X0.ldc2Long hx hown (mvT hZ (hw _ (List.mem_of_getElem? (i := 14) rfl))) (g := (mkF m 3 #[.val (.long q0), .second, .val (.long q0), .second] [(.long q0)])) rfl (hb hby d3_3) _ k) ?_
  show OGo p e below s _ _ _ (s₁.setTop (mkF m 6 #[.val (.long q0), .second, .val (.long q0), .second] [(.long (2 : Int64)), (.long q0)]))
  refine OGo.st (fun _ k => XS.lloadN X0.here hx rfl (hb hby d3_6) rfl k) ?_
  show OGo p e below s _ _ _ (s₁.setTop (mkF m 7 #[.val (.long q0), .second, .val (.long q0), .second] [(.long q0), (.long (2 : Int64)), (.long q0)]))
  refine OGo.st (fun _ k => XS.lloadN X0.here hx rfl (hb hby d3_7) rfl k) ?_
  show OGo p e below s _ _ _ (s₁.setTop (mkF m 8 #[.val (.long q0), .second, .val (.long q0), .second] [(.long q0), (.long q0), (.long (2 : Int64)), (.long q0)]))
  refine OGo.st (fun _ k => XS.lmul X0.here hx rfl (hb hby d3_8) rfl k) ?_
  show OGo p e below s _ _ _ (s₁.setTop (mkF m 9 #[.val (.long q0), .second, .val (.long q0), .second] [(.long (q0 * q0)), (.long (2 : Int64)), (.long q0)]))
  refine OGo.st (fun _ k => XS.lsub X0.here hx rfl (hb hby d3_9) rfl k) ?_
  show OGo p e below s _ _ _ (s₁.setTop (mkF m 10 #[.val (.long q0), .second, .val (.long q0), .second] [(.long ((2 : Int64) - (q0 * q0))), (.long q0)]))
  refine OGo.st (fun _ k => XS.lmul X0.here hx rfl (hb hby d3_10) rfl k) ?_
  show OGo p e below s _ _ _ (s₁.setTop (mkF m 11 #[.val (.long q0), .second, .val (.long q0), .second] [(.long (q0 * ((2 : Int64) - (q0 * q0))))]))
  refine OGo.st (fun _ k => XS.lstoreN X0.here hx rfl (hb hby d3_11) rfl (l' := #[.val (.long q0), .second, .val (.long (q0 * ((2 : Int64) - (q0 * q0)))), .second]) rfl k) ?_
  show OGo p e below s _ _ _ (s₁.setTop (mkF m 12 #[.val (.long q0), .second, .val (.long (q0 * ((2 : Int64) - (q0 * q0)))), .second] []))
  refine OGo.st (fun _ k => XS.lloadN X0.here hx rfl (hb hby d3_12) rfl k) ?_
  show OGo p e below s _ _ _ (s₁.setTop (mkF m 13 #[.val (.long q0), .second, .val (.long (q0 * ((2 : Int64) - (q0 * q0)))), .second] [(.long (q0 * ((2 : Int64) - (q0 * q0))))]))
  refine OGo.st (fun _ k => X0.ldc2Long hx hown (mvT hZ (hw _ (List.mem_of_getElem? (i := 14) rfl))) (g := (mkF m 13 #[.val (.long q0), .second, .val (.long (q0 * ((2 : Int64) - (q0 * q0)))), .second] [(.long (q0 * ((2 : Int64) - (q0 * q0))))])) rfl (hb hby d3_13) _ k) ?_
  show OGo p e below s _ _ _ (s₁.setTop (mkF m 16 #[.val (.long q0), .second, .val (.long (q0 * ((2 : Int64) - (q0 * q0)))), .second] [(.long (2 : Int64)), (.long (q0 * ((2 : Int64) - (q0 * q0))))]))
  refine OGo.st (fun _ k => XS.lloadN X0.here hx rfl (hb hby d3_16) rfl k) ?_
  show OGo p e below s _ _ _ (s₁.setTop (mkF m 17 #[.val (.long q0), .second, .val (.long (q0 * ((2 : Int64) - (q0 * q0)))), .second] [(.long q0), (.long (2 : Int64)), (.long (q0 * ((2 : Int64) - (q0 * q0))))]))
  refine OGo.st (fun _ k => XS.lloadN X0.here hx rfl (hb hby d3_17) rfl k) ?_
  show OGo p e below s _ _ _ (s₁.setTop (mkF m 18 #[.val (.long q0), .second, .val (.long (q0 * ((2 : Int64) - (q0 * q0)))), .second] [(.long (q0 * ((2 : Int64) - (q0 * q0)))), (.long q0), (.long (2 : Int64)), (.long (q0 * ((2 : Int64) - (q0 * q0))))]))
  refine OGo.st (fun _ k => XS.lmul X0.here hx rfl (hb hby d3_18) rfl k) ?_
  show OGo p e below s _ _ _ (s₁.setTop (mkF m 19 #[.val (.long q0), .second, .val (.long (q0 * ((2 : Int64) - (q0 * q0)))), .second] [(.long (q0 * (q0 * ((2 : Int64) - (q0 * q0))))), (.long (2 : Int64)), (.long (q0 * ((2 : Int64) - (q0 * q0))))]))
  refine OGo.st (fun _ k => XS.lsub X0.here hx rfl (hb hby d3_19) rfl k) ?_
  show OGo p e below s _ _ _ (s₁.setTop (mkF m 20 #[.val (.long q0), .second, .val (.long (q0 * ((2 : Int64) - (q0 * q0)))), .second] [(.long ((2 : Int64) - (q0 * (q0 * ((2 : Int64) - (q0 * q0)))))), (.long (q0 * ((2 : Int64) - (q0 * q0))))]))
  refine OGo.st (fun _ k => XS.lmul X0.here hx rfl (hb hby d3_20) rfl k) ?_
  show OGo p e below s _ _ _ (s₁.setTop (mkF m 21 #[.val (.long q0), .second, .val (.long (q0 * ((2 : Int64) - (q0 * q0)))), .second] [(.long ((q0 * ((2 : Int64) - (q0 * q0))) * ((2 : Int64) - (q0 * (q0 * ((2 : Int64) - (q0 * q0)))))))]))
  refine OGo.st (fun _ k => XS.lstoreN X0.here hx rfl (hb hby d3_21) rfl (l' := #[.val (.long q0), .second, .val (.long (v3_0 q0)), .second]) rfl k) ?_
  show OGo p e below s _ _ _ (s₁.setTop (mkF m 22 #[.val (.long q0), .second, .val (.long (v3_0 q0)), .second] []))
  refine OGo.st (fun _ k => XS.lloadN X0.here hx rfl (hb hby d3_22) rfl k) ?_
  show OGo p e below s _ _ _ (s₁.setTop (mkF m 23 #[.val (.long q0), .second, .val (.long (v3_0 q0)), .second] [(.long (v3_0 q0))]))
  refine OGo.st (fun _ k => X0.ldc2Long hx hown (mvT hZ (hw _ (List.mem_of_getElem? (i := 14) rfl))) (g := (mkF m 23 #[.val (.long q0), .second, .val (.long (v3_0 q0)), .second] [(.long (v3_0 q0))])) rfl (hb hby d3_23) _ k) ?_
  show OGo p e below s _ _ _ (s₁.setTop (mkF m 26 #[.val (.long q0), .second, .val (.long (v3_0 q0)), .second] [(.long (2 : Int64)), (.long (v3_0 q0))]))
  refine OGo.st (fun _ k => XS.lloadN X0.here hx rfl (hb hby d3_26) rfl k) ?_
  show OGo p e below s _ _ _ (s₁.setTop (mkF m 27 #[.val (.long q0), .second, .val (.long (v3_0 q0)), .second] [(.long q0), (.long (2 : Int64)), (.long (v3_0 q0))]))
  refine OGo.st (fun _ k => XS.lloadN X0.here hx rfl (hb hby d3_27) rfl k) ?_
  show OGo p e below s _ _ _ (s₁.setTop (mkF m 28 #[.val (.long q0), .second, .val (.long (v3_0 q0)), .second] [(.long (v3_0 q0)), (.long q0), (.long (2 : Int64)), (.long (v3_0 q0))]))
  refine OGo.st (fun _ k => XS.lmul X0.here hx rfl (hb hby d3_28) rfl k) ?_
  show OGo p e below s _ _ _ (s₁.setTop (mkF m 29 #[.val (.long q0), .second, .val (.long (v3_0 q0)), .second] [(.long (q0 * (v3_0 q0))), (.long (2 : Int64)), (.long (v3_0 q0))]))
  refine OGo.st (fun _ k => XS.lsub X0.here hx rfl (hb hby d3_29) rfl k) ?_
  show OGo p e below s _ _ _ (s₁.setTop (mkF m 30 #[.val (.long q0), .second, .val (.long (v3_0 q0)), .second] [(.long ((2 : Int64) - (q0 * (v3_0 q0)))), (.long (v3_0 q0))]))
  refine OGo.st (fun _ k => XS.lmul X0.here hx rfl (hb hby d3_30) rfl k) ?_
  show OGo p e below s _ _ _ (s₁.setTop (mkF m 31 #[.val (.long q0), .second, .val (.long (v3_0 q0)), .second] [(.long ((v3_0 q0) * ((2 : Int64) - (q0 * (v3_0 q0)))))]))
  refine OGo.st (fun _ k => XS.lstoreN X0.here hx rfl (hb hby d3_31) rfl (l' := #[.val (.long q0), .second, .val (.long ((v3_0 q0) * ((2 : Int64) - (q0 * (v3_0 q0))))), .second]) rfl k) ?_
  show OGo p e below s _ _ _ (s₁.setTop (mkF m 32 #[.val (.long q0), .second, .val (.long ((v3_0 q0) * ((2 : Int64) - (q0 * (v3_0 q0))))), .second] []))
  refine OGo.st (fun _ k => XS.lloadN X0.here hx rfl (hb hby d3_32) rfl k) ?_
  show OGo p e below s _ _ _ (s₁.setTop (mkF m 33 #[.val (.long q0), .second, .val (.long ((v3_0 q0) * ((2 : Int64) - (q0 * (v3_0 q0))))), .second] [(.long ((v3_0 q0) * ((2 : Int64) - (q0 * (v3_0 q0)))))]))
  refine OGo.st (fun _ k => X0.ldc2Long hx hown (mvT hZ (hw _ (List.mem_of_getElem? (i := 14) rfl))) (g := (mkF m 33 #[.val (.long q0), .second, .val (.long ((v3_0 q0) * ((2 : Int64) - (q0 * (v3_0 q0))))), .second] [(.long ((v3_0 q0) * ((2 : Int64) - (q0 * (v3_0 q0)))))])) rfl (hb hby d3_33) _ k) ?_
  show OGo p e below s _ _ _ (s₁.setTop (mkF m 36 #[.val (.long q0), .second, .val (.long ((v3_0 q0) * ((2 : Int64) - (q0 * (v3_0 q0))))), .second] [(.long (2 : Int64)), (.long ((v3_0 q0) * ((2 : Int64) - (q0 * (v3_0 q0)))))]))
  refine OGo.st (fun _ k => XS.lloadN X0.here hx rfl (hb hby d3_36) rfl k) ?_
  show OGo p e below s _ _ _ (s₁.setTop (mkF m 37 #[.val (.long q0), .second, .val (.long ((v3_0 q0) * ((2 : Int64) - (q0 * (v3_0 q0))))), .second] [(.long q0), (.long (2 : Int64)), (.long ((v3_0 q0) * ((2 : Int64) - (q0 * (v3_0 q0)))))]))
  refine OGo.st (fun _ k => XS.lloadN X0.here hx rfl (hb hby d3_37) rfl k) ?_
  show OGo p e below s _ _ _ (s₁.setTop (mkF m 38 #[.val (.long q0), .second, .val (.long ((v3_0 q0) * ((2 : Int64) - (q0 * (v3_0 q0))))), .second] [(.long ((v3_0 q0) * ((2 : Int64) - (q0 * (v3_0 q0))))), (.long q0), (.long (2 : Int64)), (.long ((v3_0 q0) * ((2 : Int64) - (q0 * (v3_0 q0)))))]))
  refine OGo.st (fun _ k => XS.lmul X0.here hx rfl (hb hby d3_38) rfl k) ?_
  show OGo p e below s _ _ _ (s₁.setTop (mkF m 39 #[.val (.long q0), .second, .val (.long ((v3_0 q0) * ((2 : Int64) - (q0 * (v3_0 q0))))), .second] [(.long (q0 * ((v3_0 q0) * ((2 : Int64) - (q0 * (v3_0 q0)))))), (.long (2 : Int64)), (.long ((v3_0 q0) * ((2 : Int64) - (q0 * (v3_0 q0)))))]))
  refine OGo.st (fun _ k => XS.lsub X0.here hx rfl (hb hby d3_39) rfl k) ?_
  show OGo p e below s _ _ _ (s₁.setTop (mkF m 40 #[.val (.long q0), .second, .val (.long ((v3_0 q0) * ((2 : Int64) - (q0 * (v3_0 q0))))), .second] [(.long ((2 : Int64) - (q0 * ((v3_0 q0) * ((2 : Int64) - (q0 * (v3_0 q0))))))), (.long ((v3_0 q0) * ((2 : Int64) - (q0 * (v3_0 q0)))))]))
  refine OGo.st (fun _ k => XS.lmul X0.here hx rfl (hb hby d3_40) rfl k) ?_
  show OGo p e below s _ _ _ (s₁.setTop (mkF m 41 #[.val (.long q0), .second, .val (.long ((v3_0 q0) * ((2 : Int64) - (q0 * (v3_0 q0))))), .second] [(.long (((v3_0 q0) * ((2 : Int64) - (q0 * (v3_0 q0)))) * ((2 : Int64) - (q0 * ((v3_0 q0) * ((2 : Int64) - (q0 * (v3_0 q0))))))))]))
  refine OGo.st (fun _ k => XS.lstoreN X0.here hx rfl (hb hby d3_41) rfl (l' := #[.val (.long q0), .second, .val (.long (v3_1 q0)), .second]) rfl k) ?_
  show OGo p e below s _ _ _ (s₁.setTop (mkF m 42 #[.val (.long q0), .second, .val (.long (v3_1 q0)), .second] []))
  refine OGo.st (fun _ k => XS.lloadN X0.here hx rfl (hb hby d3_42) rfl k) ?_
  show OGo p e below s _ _ _ (s₁.setTop (mkF m 43 #[.val (.long q0), .second, .val (.long (v3_1 q0)), .second] [(.long (v3_1 q0))]))
  refine OGo.st (fun _ k => X0.ldc2Long hx hown (mvT hZ (hw _ (List.mem_of_getElem? (i := 14) rfl))) (g := (mkF m 43 #[.val (.long q0), .second, .val (.long (v3_1 q0)), .second] [(.long (v3_1 q0))])) rfl (hb hby d3_43) _ k) ?_
  show OGo p e below s _ _ _ (s₁.setTop (mkF m 46 #[.val (.long q0), .second, .val (.long (v3_1 q0)), .second] [(.long (2 : Int64)), (.long (v3_1 q0))]))
  refine OGo.st (fun _ k => XS.lloadN X0.here hx rfl (hb hby d3_46) rfl k) ?_
  show OGo p e below s _ _ _ (s₁.setTop (mkF m 47 #[.val (.long q0), .second, .val (.long (v3_1 q0)), .second] [(.long q0), (.long (2 : Int64)), (.long (v3_1 q0))]))
  refine OGo.st (fun _ k => XS.lloadN X0.here hx rfl (hb hby d3_47) rfl k) ?_
  show OGo p e below s _ _ _ (s₁.setTop (mkF m 48 #[.val (.long q0), .second, .val (.long (v3_1 q0)), .second] [(.long (v3_1 q0)), (.long q0), (.long (2 : Int64)), (.long (v3_1 q0))]))
  refine OGo.st (fun _ k => XS.lmul X0.here hx rfl (hb hby d3_48) rfl k) ?_
  show OGo p e below s _ _ _ (s₁.setTop (mkF m 49 #[.val (.long q0), .second, .val (.long (v3_1 q0)), .second] [(.long (q0 * (v3_1 q0))), (.long (2 : Int64)), (.long (v3_1 q0))]))
  refine OGo.st (fun _ k => XS.lsub X0.here hx rfl (hb hby d3_49) rfl k) ?_
  show OGo p e below s _ _ _ (s₁.setTop (mkF m 50 #[.val (.long q0), .second, .val (.long (v3_1 q0)), .second] [(.long ((2 : Int64) - (q0 * (v3_1 q0)))), (.long (v3_1 q0))]))
  refine OGo.st (fun _ k => XS.lmul X0.here hx rfl (hb hby d3_50) rfl k) ?_
  show OGo p e below s _ _ _ (s₁.setTop (mkF m 51 #[.val (.long q0), .second, .val (.long (v3_1 q0)), .second] [(.long ((v3_1 q0) * ((2 : Int64) - (q0 * (v3_1 q0)))))]))
  refine OGo.st (fun _ k => XS.lstoreN X0.here hx rfl (hb hby d3_51) rfl (l' := #[.val (.long q0), .second, .val (.long ((v3_1 q0) * ((2 : Int64) - (q0 * (v3_1 q0))))), .second]) rfl k) ?_
  show OGo p e below s _ _ _ (s₁.setTop (mkF m 52 #[.val (.long q0), .second, .val (.long ((v3_1 q0) * ((2 : Int64) - (q0 * (v3_1 q0))))), .second] []))
  refine OGo.st (fun _ k => XS.lloadN X0.here hx rfl (hb hby d3_52) rfl k) ?_
  show OGo p e below s _ _ _ (s₁.setTop (mkF m 53 #[.val (.long q0), .second, .val (.long ((v3_1 q0) * ((2 : Int64) - (q0 * (v3_1 q0))))), .second] [(.long ((v3_1 q0) * ((2 : Int64) - (q0 * (v3_1 q0)))))]))
  exact oretJ X0 hx Bd.notSynchronized Bd.returns (hb hby d3_53) e0 ⟨(congrArg (fun z => some (Value.long z)) (show ((v3_1 q0) * ((2 : Int64) - (q0 * (v3_1 q0)))) = f3 q0 from Eq.symm (by unfold f3; exact rfl))), N0, rfl⟩ (by decide) (by decide)
theorem d2_0 : decode method_3_code 0 = .ok (.lload_n 0, 1) := by decide +kernel
theorem d2_1 : decode method_3_code 1 = .ok (.lstore_n 2, 1) := by decide +kernel
theorem d2_2 : decode method_3_code 2 = .ok (.lload_n 2, 1) := by decide +kernel
theorem d2_3 : decode method_3_code 3 = .ok (.lload_n 2, 1) := by decide +kernel
theorem d2_4 : decode method_3_code 4 = .ok (.bipush 33, 2) := by decide +kernel
theorem d2_6 : decode method_3_code 6 = .ok (.lushr, 1) := by decide +kernel
theorem d2_7 : decode method_3_code 7 = .ok (.lxor, 1) := by decide +kernel
theorem d2_8 : decode method_3_code 8 = .ok (.lstore_n 2, 1) := by decide +kernel
theorem d2_9 : decode method_3_code 9 = .ok (.lload_n 2, 1) := by decide +kernel
theorem d2_10 : decode method_3_code 10 = .ok (.ldc2_w 9, 3) := by decide +kernel
theorem d2_13 : decode method_3_code 13 = .ok (.invokestatic 11, 3) := by decide +kernel
theorem d2_16 : decode method_3_code 16 = .ok (.lmul, 1) := by decide +kernel
theorem d2_17 : decode method_3_code 17 = .ok (.lstore_n 2, 1) := by decide +kernel
theorem d2_18 : decode method_3_code 18 = .ok (.lload_n 2, 1) := by decide +kernel
theorem d2_19 : decode method_3_code 19 = .ok (.lload_n 2, 1) := by decide +kernel
theorem d2_20 : decode method_3_code 20 = .ok (.bipush 33, 2) := by decide +kernel
theorem d2_22 : decode method_3_code 22 = .ok (.lushr, 1) := by decide +kernel
theorem d2_23 : decode method_3_code 23 = .ok (.lxor, 1) := by decide +kernel
theorem d2_24 : decode method_3_code 24 = .ok (.lstore_n 2, 1) := by decide +kernel
theorem d2_25 : decode method_3_code 25 = .ok (.lload_n 2, 1) := by decide +kernel
theorem d2_26 : decode method_3_code 26 = .ok (.ldc2_w 17, 3) := by decide +kernel
theorem d2_29 : decode method_3_code 29 = .ok (.invokestatic 11, 3) := by decide +kernel
theorem d2_32 : decode method_3_code 32 = .ok (.lmul, 1) := by decide +kernel
theorem d2_33 : decode method_3_code 33 = .ok (.lstore_n 2, 1) := by decide +kernel
theorem d2_34 : decode method_3_code 34 = .ok (.lload_n 2, 1) := by decide +kernel
theorem d2_35 : decode method_3_code 35 = .ok (.lload_n 2, 1) := by decide +kernel
theorem d2_36 : decode method_3_code 36 = .ok (.bipush 33, 2) := by decide +kernel
theorem d2_38 : decode method_3_code 38 = .ok (.lushr, 1) := by decide +kernel
theorem d2_39 : decode method_3_code 39 = .ok (.lxor, 1) := by decide +kernel
theorem d2_40 : decode method_3_code 40 = .ok (.lstore_n 2, 1) := by decide +kernel
theorem d2_41 : decode method_3_code 41 = .ok (.lload_n 2, 1) := by decide +kernel
theorem d2_42 : decode method_3_code 42 = .ok (.lreturn, 1) := by decide +kernel
theorem pn_2 : plainName "com/example/hazy_set/hazyset/MurmurHash3FinalMixPinLaw" = true := by first | (simp [plainName, overriddenIn]; done) | decide +kernel
theorem pd_2_0 : parseMethodDescriptor "(J)J" = some ⟨[.long], some .long⟩ := by decide +kernel
theorem ef_2 (m : MethodId) (q0 : Int64) : entryFrame m #[(.long q0)] 4 = mkF m 0 #[.val (.long q0), .second, .unset, .unset] [] := by first | (simp [entryFrame, mkF, argsToLocals, Value.category]; done) | rfl
def v2_0 (q0 : Int64) : Int64 := (q0 ^^^ ((q0.toUInt64 >>> ((33 : Int32) &&& 0x3f).toInt64.toUInt64).toInt64))
def v2_1 (q0 : Int64) : Int64 := (((v2_0 q0) * (f3 (-4265267296055464877 : Int64))) ^^^ ((((v2_0 q0) * (f3 (-4265267296055464877 : Int64))).toUInt64 >>> ((33 : Int32) &&& 0x3f).toInt64.toUInt64).toInt64))
def v2_2 (q0 : Int64) : Int64 := (((v2_1 q0) * (f3 (-49064778989728563 : Int64))) ^^^ ((((v2_1 q0) * (f3 (-49064778989728563 : Int64))).toUInt64 >>> ((33 : Int32) &&& 0x3f).toInt64.toUInt64).toInt64))
def f2 (q0 : Int64) : Int64 := (v2_2 q0)
def Q2 (Z : State) (q0 : Int64) (h0 : Heap) (n0 : Nat) (v : Option Value) (h : Heap) (L : List Loc) : Prop := v = some (.long (f2 q0)) ∧ Fr n0 L ∧ h = h0
set_option maxRecDepth 65536 in
set_option maxHeartbeats 40000000 in
theorem rm2 (l : Launch) (Z : State) (a0 : Array Value) (hw : ∀ d ∈ tables_1, d.before a0 Z = true) (ws : List Jvm.Cond) (q0 : Int64) (h0 : Heap) (n0 : Nat) (Z0 : n0 ≤ h0.size) :
    MetFree l (⟨"com/example/hazy_set/hazyset/MurmurHash3FinalMixPinLaw", "unmix", "(J)J"⟩ : MethodName) (head1 (Jvm.Cond.code (⟨"com/example/hazy_set/hazyset/MurmurHash3FinalMixPinLaw", "unmix", "(J)J"⟩ : MethodName) method_3_code 4 (some .long) :: ws) ({ frames := 1, cells := 0, slots := 0, locals := 17 } : Room)) (fun a U => a = #[(.long q0)] ∧ Z.Warmed39 U.vm ∧ U.heap = h0) (fun _ _ _ _ _ => True) (fun _ U o U' => ∃ v L, o = .returned v ∧ Q2 Z q0 h0 n0 v U'.heap L ∧ FrameEnd U o U' L ({ frames := 1, cells := 0, slots := 0, locals := 17 } : Room).cells ({ frames := 1, cells := 0, slots := 0, locals := 17 } : Room).slots) := by
  refine MetFree.of_bodySF (plainFor_of_name pn_2) hisR ?_
  intro p e s m args below meth c s₁ Bd hml0 hP hK
  obtain ⟨rfl, hZ, hh⟩ := hP
  have hx := Bd.exec
  have hby := Bd.bytes
  have hml : c.maxLocals = 4 := hml0
  have hown : s.vm.findClass "com/example/hazy_set/hazyset/MurmurHash3FinalMixPinLaw" = some m.cls := findClass_of_methodNamed Bd.named
  have hnm := (name_of_methodNamed Bd.named Bd.method).1
  have X0 : Stand p l e ({ frames := 1, cells := 0, slots := 0, locals := 17 } : Room) s m #[(.long q0)] below meth c s₁ [] 0 0 := Stand.of_body Bd
  have e0 : s₁.heap = h0 := by rw [← hh, Bd.state]; rfl
  have N0 := Fr.nil n0
  show OGo p e below s (Q2 Z q0 h0 n0) ({ frames := 1, cells := 0, slots := 0, locals := 17 } : Room).cells ({ frames := 1, cells := 0, slots := 0, locals := 17 } : Room).slots _
  refine OGo.st (fun _ k => castTop (ef_2 m q0) k) ?_
  show OGo p e below s _ _ _ (s₁.setTop (mkF m 0 #[.val (.long q0), .second, .unset, .unset] []))
  refine OGo.st (fun _ k => XS.lloadN X0.here hx rfl (hb hby d2_0) rfl k) ?_
  show OGo p e below s _ _ _ (s₁.setTop (mkF m 1 #[.val (.long q0), .second, .unset, .unset] [(.long q0)]))
  refine OGo.st (fun _ k => XS.lstoreN X0.here hx rfl (hb hby d2_1) rfl (l' := #[.val (.long q0), .second, .val (.long q0), .second]) rfl k) ?_
  show OGo p e below s _ _ _ (s₁.setTop (mkF m 2 #[.val (.long q0), .second, .val (.long q0), .second] []))
  refine OGo.st (fun _ k => XS.lloadN X0.here hx rfl (hb hby d2_2) rfl k) ?_
  show OGo p e below s _ _ _ (s₁.setTop (mkF m 3 #[.val (.long q0), .second, .val (.long q0), .second] [(.long q0)]))
  refine OGo.st (fun _ k => XS.lloadN X0.here hx rfl (hb hby d2_3) rfl k) ?_
  show OGo p e below s _ _ _ (s₁.setTop (mkF m 4 #[.val (.long q0), .second, .val (.long q0), .second] [(.long q0), (.long q0)]))
  refine OGo.st (fun _ k => XS.bipush X0.here hx rfl (hb hby d2_4) k) ?_
  show OGo p e below s _ _ _ (s₁.setTop (mkF m 6 #[.val (.long q0), .second, .val (.long q0), .second] [(.int (33 : Int32)), (.long q0), (.long q0)]))
  refine OGo.st (fun _ k => XS.lushr X0.here hx rfl (hb hby d2_6) rfl k) ?_
  show OGo p e below s _ _ _ (s₁.setTop (mkF m 7 #[.val (.long q0), .second, .val (.long q0), .second] [(.long ((q0.toUInt64 >>> ((33 : Int32) &&& 0x3f).toInt64.toUInt64).toInt64)), (.long q0)]))
  refine OGo.st (fun _ k => XS.lxor X0.here hx rfl (hb hby d2_7) rfl k) ?_
  show OGo p e below s _ _ _ (s₁.setTop (mkF m 8 #[.val (.long q0), .second, .val (.long q0), .second] [(.long (q0 ^^^ ((q0.toUInt64 >>> ((33 : Int32) &&& 0x3f).toInt64.toUInt64).toInt64)))]))
  refine OGo.st (fun _ k => XS.lstoreN X0.here hx rfl (hb hby d2_8) rfl (l' := #[.val (.long q0), .second, .val (.long (v2_0 q0)), .second]) rfl k) ?_
  show OGo p e below s _ _ _ (s₁.setTop (mkF m 9 #[.val (.long q0), .second, .val (.long (v2_0 q0)), .second] []))
  refine OGo.st (fun _ k => XS.lloadN X0.here hx rfl (hb hby d2_9) rfl k) ?_
  show OGo p e below s _ _ _ (s₁.setTop (mkF m 10 #[.val (.long q0), .second, .val (.long (v2_0 q0)), .second] [(.long (v2_0 q0))]))
  refine OGo.st (fun _ k => X0.ldc2Long hx hown (mvT hZ (hw _ (List.mem_of_getElem? (i := 10) rfl))) (g := (mkF m 10 #[.val (.long q0), .second, .val (.long (v2_0 q0)), .second] [(.long (v2_0 q0))])) rfl (hb hby d2_10) _ k) ?_
  show OGo p e below s _ _ _ (s₁.setTop (mkF m 13 #[.val (.long q0), .second, .val (.long (v2_0 q0)), .second] [(.long (-4265267296055464877 : Int64)), (.long (v2_0 q0))]))
  obtain ⟨_, _, ⟨T1, L1, k1, n1⟩, -, X1, ⟨Lc1, hQ1, l1, y1, z1⟩, st1⟩ := Jvm.LawKit.callS X0 hx (y := (⟨"com/example/hazy_set/hazyset/MurmurHash3FinalMixPinLaw", "inverseOdd", "(J)J"⟩ : MethodName)) hown (mvT hZ (hw _ (List.mem_of_getElem? (i := 11) rfl))) (mvT hZ (hw _ (List.mem_of_getElem? (i := 12) rfl))) (mvT hZ (hw _ (List.mem_of_getElem? (i := 8) rfl))) (mvT hZ (hw _ (List.mem_of_getElem? (i := 13) rfl))) (by decide) (backOf (W := 2) (rm3 l Z a0 hw [] (-4265267296055464877 : Int64) h0 n0 Z0) hZ (hw _ (List.mem_of_getElem? (i := 13) rfl)) (hw _ (List.mem_of_getElem? (i := 8) rfl)) (by decide) (by decide)) (g := (mkF m 13 #[.val (.long q0), .second, .val (.long (v2_0 q0)), .second] [(.long (-4265267296055464877 : Int64)), (.long (v2_0 q0))])) rfl (by rw [hml]; rfl) (argsL := [(.long (-4265267296055464877 : Int64))]) (rest := [(.long (v2_0 q0))]) (lenOf pd_2_0 rfl) rfl (by show 2 * 0 + _ ≤ _; exact Nat.le_of_eq rfl) (hb hby d2_13) (fun _ _ => ⟨rfl, e0, (by decide : 0 + 0 ≤ _), (by decide : 0 + 0 ≤ _)⟩)
  dsimp only [Pt.U, Pt.locs, Pt.cells, Pt.slots] at X1 l1 y1 z1 st1 hQ1
  subst l1 y1 z1
  obtain ⟨rfl, N1q, e1⟩ := hQ1
  have N1 := Fr.app N0 N1q
  refine OGo.st st1 ?_
  show OGo p e below s _ _ _ (T1.setTop (mkF m 16 #[.val (.long q0), .second, .val (.long (v2_0 q0)), .second] [(.long (f3 (-4265267296055464877 : Int64))), (.long (v2_0 q0))]))
  refine OGo.st (fun _ k => XS.lmul X1.here hx rfl (hb hby d2_16) rfl k) ?_
  show OGo p e below s _ _ _ (T1.setTop (mkF m 17 #[.val (.long q0), .second, .val (.long (v2_0 q0)), .second] [(.long ((v2_0 q0) * (f3 (-4265267296055464877 : Int64))))]))
  refine OGo.st (fun _ k => XS.lstoreN X1.here hx rfl (hb hby d2_17) rfl (l' := #[.val (.long q0), .second, .val (.long ((v2_0 q0) * (f3 (-4265267296055464877 : Int64)))), .second]) rfl k) ?_
  show OGo p e below s _ _ _ (T1.setTop (mkF m 18 #[.val (.long q0), .second, .val (.long ((v2_0 q0) * (f3 (-4265267296055464877 : Int64)))), .second] []))
  refine OGo.st (fun _ k => XS.lloadN X1.here hx rfl (hb hby d2_18) rfl k) ?_
  show OGo p e below s _ _ _ (T1.setTop (mkF m 19 #[.val (.long q0), .second, .val (.long ((v2_0 q0) * (f3 (-4265267296055464877 : Int64)))), .second] [(.long ((v2_0 q0) * (f3 (-4265267296055464877 : Int64))))]))
  refine OGo.st (fun _ k => XS.lloadN X1.here hx rfl (hb hby d2_19) rfl k) ?_
  show OGo p e below s _ _ _ (T1.setTop (mkF m 20 #[.val (.long q0), .second, .val (.long ((v2_0 q0) * (f3 (-4265267296055464877 : Int64)))), .second] [(.long ((v2_0 q0) * (f3 (-4265267296055464877 : Int64)))), (.long ((v2_0 q0) * (f3 (-4265267296055464877 : Int64))))]))
  refine OGo.st (fun _ k => XS.bipush X1.here hx rfl (hb hby d2_20) k) ?_
  show OGo p e below s _ _ _ (T1.setTop (mkF m 22 #[.val (.long q0), .second, .val (.long ((v2_0 q0) * (f3 (-4265267296055464877 : Int64)))), .second] [(.int (33 : Int32)), (.long ((v2_0 q0) * (f3 (-4265267296055464877 : Int64)))), (.long ((v2_0 q0) * (f3 (-4265267296055464877 : Int64))))]))
  refine OGo.st (fun _ k => XS.lushr X1.here hx rfl (hb hby d2_22) rfl k) ?_
  show OGo p e below s _ _ _ (T1.setTop (mkF m 23 #[.val (.long q0), .second, .val (.long ((v2_0 q0) * (f3 (-4265267296055464877 : Int64)))), .second] [(.long ((((v2_0 q0) * (f3 (-4265267296055464877 : Int64))).toUInt64 >>> ((33 : Int32) &&& 0x3f).toInt64.toUInt64).toInt64)), (.long ((v2_0 q0) * (f3 (-4265267296055464877 : Int64))))]))
  refine OGo.st (fun _ k => XS.lxor X1.here hx rfl (hb hby d2_23) rfl k) ?_
  show OGo p e below s _ _ _ (T1.setTop (mkF m 24 #[.val (.long q0), .second, .val (.long ((v2_0 q0) * (f3 (-4265267296055464877 : Int64)))), .second] [(.long (((v2_0 q0) * (f3 (-4265267296055464877 : Int64))) ^^^ ((((v2_0 q0) * (f3 (-4265267296055464877 : Int64))).toUInt64 >>> ((33 : Int32) &&& 0x3f).toInt64.toUInt64).toInt64)))]))
  refine OGo.st (fun _ k => XS.lstoreN X1.here hx rfl (hb hby d2_24) rfl (l' := #[.val (.long q0), .second, .val (.long (v2_1 q0)), .second]) rfl k) ?_
  show OGo p e below s _ _ _ (T1.setTop (mkF m 25 #[.val (.long q0), .second, .val (.long (v2_1 q0)), .second] []))
  refine OGo.st (fun _ k => XS.lloadN X1.here hx rfl (hb hby d2_25) rfl k) ?_
  show OGo p e below s _ _ _ (T1.setTop (mkF m 26 #[.val (.long q0), .second, .val (.long (v2_1 q0)), .second] [(.long (v2_1 q0))]))
  refine OGo.st (fun _ k => X1.ldc2Long hx hown (mvT hZ (hw _ (List.mem_of_getElem? (i := 15) rfl))) (g := (mkF m 26 #[.val (.long q0), .second, .val (.long (v2_1 q0)), .second] [(.long (v2_1 q0))])) rfl (hb hby d2_26) _ k) ?_
  show OGo p e below s _ _ _ (T1.setTop (mkF m 29 #[.val (.long q0), .second, .val (.long (v2_1 q0)), .second] [(.long (-49064778989728563 : Int64)), (.long (v2_1 q0))]))
  obtain ⟨_, _, ⟨T2, L2, k2, n2⟩, -, X2, ⟨Lc2, hQ2, l2, y2, z2⟩, st2⟩ := Jvm.LawKit.callS X1 hx (y := (⟨"com/example/hazy_set/hazyset/MurmurHash3FinalMixPinLaw", "inverseOdd", "(J)J"⟩ : MethodName)) hown (mvT hZ (hw _ (List.mem_of_getElem? (i := 11) rfl))) (mvT hZ (hw _ (List.mem_of_getElem? (i := 12) rfl))) (mvT hZ (hw _ (List.mem_of_getElem? (i := 8) rfl))) (mvT hZ (hw _ (List.mem_of_getElem? (i := 13) rfl))) (by decide) (backOf (W := 2) (rm3 l Z a0 hw [] (-49064778989728563 : Int64) h0 n0 Z0) hZ (hw _ (List.mem_of_getElem? (i := 13) rfl)) (hw _ (List.mem_of_getElem? (i := 8) rfl)) (by decide) (by decide)) (g := (mkF m 29 #[.val (.long q0), .second, .val (.long (v2_1 q0)), .second] [(.long (-49064778989728563 : Int64)), (.long (v2_1 q0))])) rfl (by rw [hml]; rfl) (argsL := [(.long (-49064778989728563 : Int64))]) (rest := [(.long (v2_1 q0))]) (lenOf pd_2_0 rfl) rfl (by show 2 * 0 + _ ≤ _; exact Nat.le_of_eq rfl) (hb hby d2_29) (fun _ _ => ⟨rfl, e1, (by decide : 0 + 0 ≤ _), (by decide : 0 + 0 ≤ _)⟩)
  dsimp only [Pt.U, Pt.locs, Pt.cells, Pt.slots] at X2 l2 y2 z2 st2 hQ2
  subst l2 y2 z2
  obtain ⟨rfl, N2q, e2⟩ := hQ2
  have N2 := Fr.app N1 N2q
  refine OGo.st st2 ?_
  show OGo p e below s _ _ _ (T2.setTop (mkF m 32 #[.val (.long q0), .second, .val (.long (v2_1 q0)), .second] [(.long (f3 (-49064778989728563 : Int64))), (.long (v2_1 q0))]))
  refine OGo.st (fun _ k => XS.lmul X2.here hx rfl (hb hby d2_32) rfl k) ?_
  show OGo p e below s _ _ _ (T2.setTop (mkF m 33 #[.val (.long q0), .second, .val (.long (v2_1 q0)), .second] [(.long ((v2_1 q0) * (f3 (-49064778989728563 : Int64))))]))
  refine OGo.st (fun _ k => XS.lstoreN X2.here hx rfl (hb hby d2_33) rfl (l' := #[.val (.long q0), .second, .val (.long ((v2_1 q0) * (f3 (-49064778989728563 : Int64)))), .second]) rfl k) ?_
  show OGo p e below s _ _ _ (T2.setTop (mkF m 34 #[.val (.long q0), .second, .val (.long ((v2_1 q0) * (f3 (-49064778989728563 : Int64)))), .second] []))
  refine OGo.st (fun _ k => XS.lloadN X2.here hx rfl (hb hby d2_34) rfl k) ?_
  show OGo p e below s _ _ _ (T2.setTop (mkF m 35 #[.val (.long q0), .second, .val (.long ((v2_1 q0) * (f3 (-49064778989728563 : Int64)))), .second] [(.long ((v2_1 q0) * (f3 (-49064778989728563 : Int64))))]))
  refine OGo.st (fun _ k => XS.lloadN X2.here hx rfl (hb hby d2_35) rfl k) ?_
  show OGo p e below s _ _ _ (T2.setTop (mkF m 36 #[.val (.long q0), .second, .val (.long ((v2_1 q0) * (f3 (-49064778989728563 : Int64)))), .second] [(.long ((v2_1 q0) * (f3 (-49064778989728563 : Int64)))), (.long ((v2_1 q0) * (f3 (-49064778989728563 : Int64))))]))
  refine OGo.st (fun _ k => XS.bipush X2.here hx rfl (hb hby d2_36) k) ?_
  show OGo p e below s _ _ _ (T2.setTop (mkF m 38 #[.val (.long q0), .second, .val (.long ((v2_1 q0) * (f3 (-49064778989728563 : Int64)))), .second] [(.int (33 : Int32)), (.long ((v2_1 q0) * (f3 (-49064778989728563 : Int64)))), (.long ((v2_1 q0) * (f3 (-49064778989728563 : Int64))))]))
  refine OGo.st (fun _ k => XS.lushr X2.here hx rfl (hb hby d2_38) rfl k) ?_
  show OGo p e below s _ _ _ (T2.setTop (mkF m 39 #[.val (.long q0), .second, .val (.long ((v2_1 q0) * (f3 (-49064778989728563 : Int64)))), .second] [(.long ((((v2_1 q0) * (f3 (-49064778989728563 : Int64))).toUInt64 >>> ((33 : Int32) &&& 0x3f).toInt64.toUInt64).toInt64)), (.long ((v2_1 q0) * (f3 (-49064778989728563 : Int64))))]))
  refine OGo.st (fun _ k => XS.lxor X2.here hx rfl (hb hby d2_39) rfl k) ?_
  show OGo p e below s _ _ _ (T2.setTop (mkF m 40 #[.val (.long q0), .second, .val (.long ((v2_1 q0) * (f3 (-49064778989728563 : Int64)))), .second] [(.long (((v2_1 q0) * (f3 (-49064778989728563 : Int64))) ^^^ ((((v2_1 q0) * (f3 (-49064778989728563 : Int64))).toUInt64 >>> ((33 : Int32) &&& 0x3f).toInt64.toUInt64).toInt64)))]))
  refine OGo.st (fun _ k => XS.lstoreN X2.here hx rfl (hb hby d2_40) rfl (l' := #[.val (.long q0), .second, .val (.long (v2_2 q0)), .second]) rfl k) ?_
  show OGo p e below s _ _ _ (T2.setTop (mkF m 41 #[.val (.long q0), .second, .val (.long (v2_2 q0)), .second] []))
  refine OGo.st (fun _ k => XS.lloadN X2.here hx rfl (hb hby d2_41) rfl k) ?_
  show OGo p e below s _ _ _ (T2.setTop (mkF m 42 #[.val (.long q0), .second, .val (.long (v2_2 q0)), .second] [(.long (v2_2 q0))]))
  exact oretJ X2 hx Bd.notSynchronized Bd.returns (hb hby d2_42) e2 ⟨(congrArg (fun z => some (Value.long z)) (show (v2_2 q0) = f2 q0 from Eq.symm (by unfold f2; exact rfl))), N2, rfl⟩ (by decide) (by decide)
theorem pn_0 : plainName "com/example/hazy_set/hazyset/MurmurHash3FinalMixPinLaw" = true := by first | (simp [plainName, overriddenIn]; done) | decide +kernel
theorem pd_0_0 : parseMethodDescriptor "(J)J" = some ⟨[.long], some .long⟩ := by decide +kernel
theorem ef_0 (m : MethodId) (q0 : Int64) : entryFrame m #[(.long q0)] maxLocals = mkF m 0 #[.val (.long q0), .second] [] := by first | (simp [entryFrame, mkF, argsToLocals, Value.category, maxLocals]; done) | rfl
def f0 (q0 : Int64) : Int32 := (if (f2 (f1 q0)) = q0 then (1 : Int32) else (0 : Int32))
def Q0 (Z : State) (q0 : Int64) (h0 : Heap) (n0 : Nat) (v : Option Value) (h : Heap) (L : List Loc) : Prop := v = some (.int (f0 q0)) ∧ Fr n0 L
set_option maxRecDepth 65536 in
set_option maxHeartbeats 40000000 in
theorem rm0 (l : Launch) (Z : State) (a0 : Array Value) (hw : ∀ d ∈ tables_1, d.before a0 Z = true) (ws : List Jvm.Cond) (q0 : Int64) (h0 : Heap) (n0 : Nat) (Z0 : n0 ≤ h0.size) :
    MetFree l x (head1 (Jvm.Cond.code x code maxLocals ret :: ws) room_1) (fun a U => a = #[(.long q0)] ∧ Z.Warmed39 U.vm ∧ U.heap = h0) (fun _ _ _ _ _ => True) (fun _ U o U' => ∃ v L, o = .returned v ∧ Q0 Z q0 h0 n0 v U'.heap L ∧ FrameEnd U o U' L room_1.cells room_1.slots) := by
  refine MetFree.of_bodySF (plainFor_of_name pn_0) hisR ?_
  intro p e s m args below meth c s₁ Bd hml0 hP hK
  obtain ⟨rfl, hZ, hh⟩ := hP
  have hx := Bd.exec
  have hby := Bd.bytes
  have hml : c.maxLocals = 2 := hml0
  have hown : s.vm.findClass "com/example/hazy_set/hazyset/MurmurHash3FinalMixPinLaw" = some m.cls := findClass_of_methodNamed Bd.named
  have hnm := (name_of_methodNamed Bd.named Bd.method).1
  have X0 : Stand p l e room_1 s m #[(.long q0)] below meth c s₁ [] 0 0 := Stand.of_body Bd
  have e0 : s₁.heap = h0 := by rw [← hh, Bd.state]; rfl
  have N0 := Fr.nil n0
  show OGo p e below s (Q0 Z q0 h0 n0) room_1.cells room_1.slots _
  refine OGo.st (fun _ k => castTop (ef_0 m q0) k) ?_
  show OGo p e below s _ _ _ (s₁.setTop (mkF m 0 #[.val (.long q0), .second] []))
  refine OGo.st (fun _ k => XS.lloadN X0.here hx rfl (hb hby at_0) rfl k) ?_
  show OGo p e below s _ _ _ (s₁.setTop (mkF m 1 #[.val (.long q0), .second] [(.long q0)]))
  obtain ⟨_, _, ⟨T1, L1, k1, n1⟩, -, X1, ⟨Lc1, hQ1, l1, y1, z1⟩, st1⟩ := Jvm.LawKit.callS X0 hx (y := (⟨"com/example/hazy_set/hazyset/MurmurHash3", "finalMix", "(J)J"⟩ : MethodName)) hown (mvT hZ (hw _ (List.mem_of_getElem? (i := 0) rfl))) (mvT hZ (hw _ (List.mem_of_getElem? (i := 1) rfl))) (mvT hZ (hw _ (List.mem_of_getElem? (i := 2) rfl))) (mvT hZ (hw _ (List.mem_of_getElem? (i := 3) rfl))) (by decide) (backOf (W := 0) (rm1 l Z a0 hw [] q0 h0 n0 Z0) hZ (hw _ (List.mem_of_getElem? (i := 3) rfl)) (hw _ (List.mem_of_getElem? (i := 2) rfl)) (by decide) (by decide)) (g := (mkF m 1 #[.val (.long q0), .second] [(.long q0)])) rfl (by rw [hml]; rfl) (argsL := [(.long q0)]) (rest := []) (lenOf pd_0_0 rfl) rfl (by show 2 * 0 + _ ≤ _; exact Nat.le_of_eq rfl) (hb hby at_1) (fun _ _ => ⟨rfl, e0, (by decide : 0 + 0 ≤ _), (by decide : 0 + 0 ≤ _)⟩)
  dsimp only [Pt.U, Pt.locs, Pt.cells, Pt.slots] at X1 l1 y1 z1 st1 hQ1
  subst l1 y1 z1
  obtain ⟨rfl, N1q, e1⟩ := hQ1
  have N1 := Fr.app N0 N1q
  refine OGo.st st1 ?_
  show OGo p e below s _ _ _ (T1.setTop (mkF m 4 #[.val (.long q0), .second] [(.long (f1 q0))]))
  obtain ⟨_, _, ⟨T2, L2, k2, n2⟩, -, X2, ⟨Lc2, hQ2, l2, y2, z2⟩, st2⟩ := Jvm.LawKit.callS X1 hx (y := (⟨"com/example/hazy_set/hazyset/MurmurHash3FinalMixPinLaw", "unmix", "(J)J"⟩ : MethodName)) hown (mvT hZ (hw _ (List.mem_of_getElem? (i := 6) rfl))) (mvT hZ (hw _ (List.mem_of_getElem? (i := 7) rfl))) (mvT hZ (hw _ (List.mem_of_getElem? (i := 8) rfl))) (mvT hZ (hw _ (List.mem_of_getElem? (i := 9) rfl))) (by decide) (backOf (W := 0) (rm2 l Z a0 hw [] (f1 q0) h0 n0 Z0) hZ (hw _ (List.mem_of_getElem? (i := 9) rfl)) (hw _ (List.mem_of_getElem? (i := 8) rfl)) (by decide) (by decide)) (g := (mkF m 4 #[.val (.long q0), .second] [(.long (f1 q0))])) rfl (by rw [hml]; rfl) (argsL := [(.long (f1 q0))]) (rest := []) (lenOf pd_0_0 rfl) rfl (by show 2 * 0 + _ ≤ _; exact Nat.le_of_eq rfl) (hb hby at_4) (fun _ _ => ⟨rfl, e1, (by decide : 0 + 0 ≤ _), (by decide : 0 + 0 ≤ _)⟩)
  dsimp only [Pt.U, Pt.locs, Pt.cells, Pt.slots] at X2 l2 y2 z2 st2 hQ2
  subst l2 y2 z2
  obtain ⟨rfl, N2q, e2⟩ := hQ2
  have N2 := Fr.app N1 N2q
  refine OGo.st st2 ?_
  show OGo p e below s _ _ _ (T2.setTop (mkF m 7 #[.val (.long q0), .second] [(.long (f2 (f1 q0)))]))
  refine OGo.st (fun _ k => XS.lloadN X2.here hx rfl (hb hby at_7) rfl k) ?_
  show OGo p e below s _ _ _ (T2.setTop (mkF m 8 #[.val (.long q0), .second] [(.long q0), (.long (f2 (f1 q0)))]))
  refine OGo.st (fun _ k => XS.lcmp X2.here hx rfl (hb hby at_8) rfl k) ?_
  show OGo p e below s _ _ _ (T2.setTop (mkF m 9 #[.val (.long q0), .second] [(.int (lcmpW (f2 (f1 q0)) q0))]))
  by_cases hc9 : (f2 (f1 q0)) = q0
  · refine OGo.st (fun _ k => XS.ifNo X2.here hx rfl (hb hby at_9) rfl ((if0 _ _).trans (teq ((olc_eq _ _).mpr hc9)).2) k) ?_
    show OGo p e below s _ _ _ (T2.setTop (mkF m 12 #[.val (.long q0), .second] []))
    refine OGo.st (fun _ k => XS.iconst X2.here hx rfl (hb hby at_12) k) ?_
    show OGo p e below s _ _ _ (T2.setTop (mkF m 13 #[.val (.long q0), .second] [(.int (1 : Int32))]))
    refine OGo.st (fun _ k => XS.goto X2.here hx rfl (pc0 := 13) (pc' := 17) rfl (hb hby at_13) (by decide) (by decide) k) ?_
    show OGo p e below s _ _ _ (T2.setTop (mkF m 17 #[.val (.long q0), .second] [(.int (1 : Int32))]))
    exact oretN X2 hx Bd.notSynchronized (t := .boolean) Bd.returns (by simp) (hb hby at_17) (z' := (1 : Int32)) (by decide) e2 ⟨(congrArg (fun z => some (Value.int z)) (show (1 : Int32) = f0 q0 from Eq.symm (by unfold f0; exact if_pos hc9))), N2⟩ (by decide) (by decide)
  · refine OGo.st (fun _ k => XS.ifYes X2.here hx rfl (pc0 := 9) (pc' := 16) rfl (hb hby at_9) rfl ((if0 _ _).trans (feq (fun z => hc9 ((olc_eq _ _).mp z))).2) (by decide) (by decide) k) ?_
    show OGo p e below s _ _ _ (T2.setTop (mkF m 16 #[.val (.long q0), .second] []))
    refine OGo.st (fun _ k => XS.iconst X2.here hx rfl (hb hby at_16) k) ?_
    show OGo p e below s _ _ _ (T2.setTop (mkF m 17 #[.val (.long q0), .second] [(.int (0 : Int32))]))
    exact oretN X2 hx Bd.notSynchronized (t := .boolean) Bd.returns (by simp) (hb hby at_17) (z' := (0 : Int32)) (by decide) e2 ⟨(congrArg (fun z => some (Value.int z)) (show (0 : Int32) = f0 q0 from Eq.symm (by unfold f0; exact if_neg hc9))), N2⟩ (by decide) (by decide)
theorem own_sh (x : Int64) : ((x.toUInt64 >>> ((33 : Int32) &&& 0x3f).toInt64.toUInt64).toInt64).toBitVec = x.toBitVec >>> 33 := by
  show (x.toUInt64 >>> ((33 : Int32) &&& 0x3f).toInt64.toUInt64).toBitVec = _
  rw [UInt64.toBitVec_shiftRight]
  rfl
theorem own_xs (x : Int64) : ((x ^^^ ((x.toUInt64 >>> ((33 : Int32) &&& 0x3f).toInt64.toUInt64).toInt64)) ^^^ (((x ^^^ ((x.toUInt64 >>> ((33 : Int32) &&& 0x3f).toInt64.toUInt64).toInt64)).toUInt64 >>> ((33 : Int32) &&& 0x3f).toInt64.toUInt64).toInt64)) = x := by
  apply Int64.toBitVec_inj.mp
  simp only [Int64.toBitVec_xor, own_sh, BitVec.ushiftRight_xor_distrib]
  have z : x.toBitVec >>> 33 >>> 33 = 0#64 := by
    rw [← BitVec.shiftRight_add]
    apply BitVec.eq_of_toNat_eq
    rw [BitVec.toNat_ushiftRight, Nat.shiftRight_eq_div_pow]
    exact Nat.div_eq_of_lt (by have := x.toBitVec.isLt; omega)
  rw [z, BitVec.xor_zero, BitVec.xor_assoc, BitVec.xor_self, BitVec.xor_zero]
theorem own_i1 : (-4265267296055464877 : Int64) * f3 (-4265267296055464877 : Int64) = 1 := by decide +kernel
theorem own_i2 : (-49064778989728563 : Int64) * f3 (-49064778989728563 : Int64) = 1 := by decide +kernel
theorem own_plain (q0 : Int64) : f0 q0 = 1 := by
  have e : f2 (f1 q0) = q0 := by
    unfold f2 f1 v2_2 v2_1 v2_0 v1_2
    rw [own_xs, Int64.mul_assoc, own_i1, Int64.mul_one]
    unfold v1_1
    rw [own_xs, Int64.mul_assoc, own_i2, Int64.mul_one]
    unfold v1_0
    rw [own_xs]
  unfold f0; rw [if_pos e]
set_option maxRecDepth 65536 in
set_option maxHeartbeats 40000000 in
theorem comes_1 {Post : Tables → Env → Array Value → State → Outcome → State → Prop} (hpost : ∀ tb e args s v u, (limb_1_1.after args s (.returned v) u = true ∧ limb_1_2.after args s (.returned v) u = true ∧ True) → FrameEnd s (.returned v) u (Jvm.fieldLocs frame_1_writes args s ++ Jvm.arrayLocs frame_1_arrays args s ++ Jvm.staticLocs frame_1_statics s) 0 0 → Post tb e args s (.returned v) u) :
    ArmFor flags0 classFile x code maxLocals ret World_1 tables_1 room_1 Calls_1 rest_1 Pre_1 Post := by
  intro l hfl _ _ p e ha hc hk s m args below hf hA hF happ hP
  obtain ⟨hcalls, hrest, hpre⟩ := hP
  obtain ⟨-, -, -, hnamed, -, -, -, hat⟩ := (Spec.applies_iff hf).mp happ
  obtain ⟨hg, hn⟩ := and_e (Cond.before_iff.mp (show (Jvm.Cond.and given_1 narrow_1).before args s = true from hpre))
  obtain ⟨gv1, gv2⟩ := and_e hg
  obtain ⟨w0, rfl⟩ : ∃ w0 : Value, args = #[w0] := by
    have hs : args.size = 1 := by simpa [Cond.value, given_1] using gv1
    obtain ⟨L⟩ := args
    match L, hs with
    | [w0], _ => exact ⟨w0, rfl⟩
  have hw := fun d (hd : d ∈ tables_1) => atoms_spec (ws := Jvm.Cond.code x code maxLocals ret :: tables_1) hat d (List.mem_cons_of_mem _ hd)
  have hfit : Fit s := fun {y c} hc i hi => by
    obtain ⟨ha, rfl⟩ := Array.getElem?_eq_some_iff.mp hc
    have q := List.all_eq_true.mp ((Array.all_eq_true_iff_forall_mem.mp hF) _ (Array.getElem_mem ha)) i (List.mem_range.mpr hi)
    simpa [Array.getElem?_eq_getElem hi] using q
  obtain ⟨i0, ei0⟩ := isL_v gv2
  obtain rfl : w0 = (.long i0) := Option.some.inj ei0
  have hpl := own_plain i0
  obtain ⟨n, o, h1, h2, h3, _, L, rfl, ⟨rfl, N⟩, hq⟩ := rm0 l s _ hw tables_1 i0 s.heap s.heap.size (Nat.le_refl _) p e ha hc hk s m _ below hf ((Spec.applies_iff_loose hf).mp happ).1 ⟨rfl, State.Warmed39.refl s, rfl⟩ trivial
  refine ⟨n, _, h1, h2, h3, hpost _ _ _ _ _ _ ⟨Cond.after_iff.mpr rfl, Cond.after_iff.mpr (eq_i res_at (Term.int_eval (1)) (congrArg Value.int hpl)), trivial⟩ ⟨hq.1, hq.2.1, (hq.2.2.sift fun y hy => Or.inr (N y hy)).mono (by decide) (by decide)⟩⟩
theorem main_1_1 : Claimed_1_1 := comes_1 fun _ _ _ _ _ _ h hF => ⟨h.1, hF⟩
theorem main_1_2 : Claimed_1_2 := comes_1 fun _ _ _ _ _ _ h hF => ⟨h.2.1, hF⟩
end Jvm.Pilot.@@N@@
namespace Jvm.Pilot.@@N@@
open Jvm Jvm.ClassFile Sem Op Lib Jvm.Free Jvm.Stand Jvm.Pilot.@@N@@.Jvm.D
/-! MADE BY PROGRAM (witnessworld.py) out of the Statement's table words and the real class files: 9 classes; the members and pool entries that the words name. The judged class is class 1, her method 3. -/
namespace start1
open Jvm.ClassFile
def u (s : String) : CpInfo := .utf8 (stringToUtf16 s)
/-- a pool by its gaps: so many unusable entries, then the entry; so many at the end -/
def gap : Nat → List CpInfo → List CpInfo
  | 0, r => r
  | n + 1, r => .unusable :: gap n r
def poolList (es : List (Nat × CpInfo)) (last : Nat) : List CpInfo := es.foldr (fun e r => gap e.1 (e.2 :: r)) (gap last [])
def pool (es : List (Nat × CpInfo)) (last : Nat) : Array CpInfo := ⟨poolList es last⟩
def fileOf (pool : Array CpInfo) (this : Nat) (attrs : Array Attribute := #[]) (ms : Array MethodInfo := #[]) (fl : Nat := 33) (sup : Nat := 0) (ifs : Array Nat := #[]) (fds : Array FieldInfo := #[]) : ClassFile where
  minorVersion := 0
  majorVersion := 65
  constantPool := pool
  accessFlags := fl
  thisClass := this
  superClass := sup
  interfaces := ifs
  fields := fds
  methods := ms
  attributes := attrs
def plain (name : String) (sup : Option ClassId) : Class where
  name := name
  kind := .ordinary
  loader := none
  accessFlags := 33
  super := sup
  interfaces := #[]
  cf := none
  fields := #[]
  methods := #[]
  instanceTypes := #[]
  staticTypes := #[]
  resolved := #[]
  callSites := []
  init := .initialized
  statics := none
  mirror := none

def pool0 : Array CpInfo := pool [(5, u "<init>"), (0, u "()V"), (1, .class_ 10), (1, u "java/lang/Object")] 113

def k0m0 : Method := { name := "<init>", desc := "()V", sig := { parameters := [], returnType := none }, accessFlags := 1, code := none }
/-- java/lang/Object -/
def k0 : Class := { plain "java/lang/Object" none with
  accessFlags := 33
  interfaces := #[]
  cf := some (fileOf pool0 8 #[] #[{ accessFlags := 1, nameIndex := 5, descriptorIndex := 6, attributes := #[] }] 33 0 #[] #[])
  fields := #[]
  methods := #[k0m0]
  instanceTypes := #[]
  staticTypes := #[]
  resolved := Array.replicate 124 none
  statics := none }

def pool1 : Array CpInfo := pool [(2, .class_ 4), (1, u "java/lang/Object"), (0, u "<init>"), (0, u "()V"), (0, .long 2), (1, .long 14181476777654086739), (1, .methodref 12 13), (0, .class_ 14), (0, .nameAndType 15 16), (0, u "com/example/hazy_set/hazyset/MurmurHash3FinalMixPinLaw"), (0, u "inverseOdd"), (0, u "(J)J"), (0, .long 18397679294719823053), (1, .methodref 20 21), (0, .class_ 22), (0, .nameAndType 23 16), (0, u "com/example/hazy_set/hazyset/MurmurHash3"), (0, u "finalMix"), (0, .methodref 12 25), (0, .nameAndType 26 16), (0, u "unmix"), (2, u "law"), (0, u "(J)Z")] 3

def k1m0 : Method := { name := "<init>", desc := "()V", sig := { parameters := [], returnType := none }, accessFlags := 2, code := none }
def k1c1 : Code := { maxStack := 8, maxLocals := 4, code := method_2_code, exceptionTable := #[], attributes := #[] }
def k1m1 : Method := { name := "inverseOdd", desc := "(J)J", sig := { parameters := [.long], returnType := some .long }, accessFlags := 10, code := some k1c1 }
def k1c2 : Code := { maxStack := 5, maxLocals := 4, code := method_3_code, exceptionTable := #[], attributes := #[] }
def k1m2 : Method := { name := "unmix", desc := "(J)J", sig := { parameters := [.long], returnType := some .long }, accessFlags := 10, code := some k1c2 }
def k1c3 : Code := { maxStack := 4, maxLocals := 2, code := code, exceptionTable := #[], attributes := #[] }
def k1m3 : Method := { name := "law", desc := "(J)Z", sig := { parameters := [.long], returnType := some .boolean }, accessFlags := 9, code := some k1c3 }
/-- com/example/hazy_set/hazyset/MurmurHash3FinalMixPinLaw -/
def k1 : Class := { plain "com/example/hazy_set/hazyset/MurmurHash3FinalMixPinLaw" (some 0) with
  accessFlags := 49
  interfaces := #[]
  cf := some (fileOf pool1 12 #[] #[{ accessFlags := 2, nameIndex := 5, descriptorIndex := 6, attributes := #[] }, { accessFlags := 10, nameIndex := 15, descriptorIndex := 16, attributes := #[] }, { accessFlags := 10, nameIndex := 26, descriptorIndex := 16, attributes := #[] }, { accessFlags := 9, nameIndex := 29, descriptorIndex := 30, attributes := #[] }] 49 2 #[] #[])
  fields := #[]
  methods := #[k1m0, k1m1, k1m2, k1m3]
  instanceTypes := #[]
  staticTypes := #[]
  resolved := Array.replicate 34 none
  statics := none }

def pool2 : Array CpInfo := pool [(2, .class_ 4), (1, u "java/lang/Object"), (0, u "<init>"), (0, u "()V"), (8, .class_ 16), (0, u "com/example/hazy_set/hazyset/MurmurHash3"), (2, u "LONG_LITTLE_ENDIAN"), (0, u "Ljava/lang/invoke/VarHandle;"), (9, u "(J)J"), (31, u "finalMix"), (11, .long 18397679294719823053), (1, .long 14181476777654086739), (15, u "C1"), (0, u "J"), (1, u "C2"), (0, u "BLOCK_BYTES"), (0, u "I")] 12

def k2m0 : Method := { name := "<init>", desc := "()V", sig := { parameters := [], returnType := none }, accessFlags := 2, code := none }
def k2c1 : Code := { maxStack := 5, maxLocals := 4, code := prog_15_method_8_code, exceptionTable := #[], attributes := #[] }
def k2m1 : Method := { name := "finalMix", desc := "(J)J", sig := { parameters := [.long], returnType := some .long }, accessFlags := 8, code := some k2c1 }
/-- com/example/hazy_set/hazyset/MurmurHash3 -/
def k2 : Class := { plain "com/example/hazy_set/hazyset/MurmurHash3" (some 0) with
  accessFlags := 49
  interfaces := #[]
  cf := some (fileOf pool2 15 #[] #[{ accessFlags := 2, nameIndex := 5, descriptorIndex := 6, attributes := #[] }, { accessFlags := 8, nameIndex := 62, descriptorIndex := 30, attributes := #[] }] 49 2 #[] #[{ accessFlags := 26, nameIndex := 92, descriptorIndex := 93, attributes := #[] }, { accessFlags := 26, nameIndex := 95, descriptorIndex := 93, attributes := #[] }, { accessFlags := 26, nameIndex := 96, descriptorIndex := 97, attributes := #[] }, { accessFlags := 26, nameIndex := 19, descriptorIndex := 20, attributes := #[] }])
  fields := #[{ name := "C1", type := .long, accessFlags := 26, slot := 0, constantValue := 0 }, { name := "C2", type := .long, accessFlags := 26, slot := 1, constantValue := 0 }, { name := "BLOCK_BYTES", type := .int, accessFlags := 26, slot := 2, constantValue := 0 }, { name := "LONG_LITTLE_ENDIAN", type := (.object "java/lang/invoke/VarHandle"), accessFlags := 26, slot := 3, constantValue := 0 }]
  methods := #[k2m0, k2m1]
  instanceTypes := #[]
  staticTypes := #[.long, .long, .int, (.object "java/lang/invoke/VarHandle")]
  resolved := Array.replicate 110 none
  statics := none }

def pool3 : Array CpInfo := pool [(1, u "java/lang/Cloneable"), (0, .class_ 1), (0, u "java/lang/Object"), (0, .class_ 3)] 3

/-- java/lang/Cloneable -/
def k3 : Class := { plain "java/lang/Cloneable" (some 0) with
  accessFlags := 1537
  interfaces := #[]
  cf := some (fileOf pool3 2 #[] #[] 1537 4 #[] #[])
  fields := #[]
  methods := #[]
  instanceTypes := #[]
  staticTypes := #[]
  resolved := Array.replicate 8 none
  statics := none }

def pool4 : Array CpInfo := pool [(1, u "java/io/Serializable"), (0, .class_ 1), (0, u "java/lang/Object"), (0, .class_ 3)] 3

/-- java/io/Serializable -/
def k4 : Class := { plain "java/io/Serializable" (some 0) with
  accessFlags := 1537
  interfaces := #[]
  cf := some (fileOf pool4 2 #[] #[] 1537 4 #[] #[])
  fields := #[]
  methods := #[]
  instanceTypes := #[]
  staticTypes := #[]
  resolved := Array.replicate 8 none
  statics := none }

/-- the primitive byte -/
def k5 : Class := { plain "byte" none with kind := .primitive 'B', accessFlags := 0x411 }
/-- [B -/
def k6 : Class := { plain "[B" (some 0) with kind := .array 5 .byte, interfaces := #[3, 4], accessFlags := 1041 }

/-- the primitive int -/
def k7 : Class := { plain "int" none with kind := .primitive 'I', accessFlags := 0x411 }
/-- [I -/
def k8 : Class := { plain "[I" (some 0) with kind := .array 7 .int, interfaces := #[3, 4], accessFlags := 1041 }

def heap : Heap := #[]
def classes : Array Class := #[k0, k1, k2, k3, k4, k5, k6, k7, k8]
def interned : List (Array UInt16 × Addr) := []
def slotsUsed : Nat := 0
def theMethod : MethodId := ⟨1, 3⟩
def args0 : Array Value := #[.long 5]
def aboutOver (below : List Frame) : State where
  vm := { classes := classes, interned := interned.toArray }
  heap := heap
  slotsUsed := slotsUsed
  threads := #[{ frames := .invoking theMethod args0 :: below }]
def below0 : List Frame := [.native { method := ⟨0, 0⟩, args := #[] }]
def about1 : State := aboutOver below0
def p0 : Program := .bare "" "" ""
def e0 : Env := launch0.env 0 0 0
theorem w_frames : about1.frames = Frame.invoking theMethod args0 :: below0 := rfl
set_option maxRecDepth 65536 in
theorem w_args : argsFit about1.vm theMethod args0 = true := by decide +kernel
set_option maxRecDepth 65536 in
theorem w_heap : heapFits about1 = true := by decide +kernel
set_option maxRecDepth 65536 in
theorem w_runnable : about1.curStatus? = some .runnable := by decide +kernel
set_option maxRecDepth 65536 in
theorem w_alone : about1.alone = true := by decide +kernel
set_option maxRecDepth 65536 in
theorem w_named : about1.methodNamed? x = some theMethod := by decide +kernel
set_option maxRecDepth 65536 in
theorem w_hears : about1.hears theMethod below0 = true := by decide +kernel
set_option maxRecDepth 65536 in
theorem w_ripe : about1.ripe theMethod args0 below0 = true := by decide +kernel
theorem w_running : about1.status = .running := rfl
set_option maxRecDepth 65536 in
theorem w_room : about1.hasRoom e0.platform room_1 = true :=
  launch0.hasRoom_least _ room_1 (by decide +kernel) (by decide +kernel) (by decide +kernel) (by decide +kernel) (by decide +kernel) (by decide +kernel)
theorem allAtoms_all (ts : List Jvm.Cond) (a : Array Jvm.Value) (st : Jvm.State) : (allAtoms ts).before a st = ts.all (fun c => c.before a st) := by
  induction ts with
  | nil => rfl
  | cons c t ih =>
    show (Jvm.Cond.and c (allAtoms t)).before a st = _
    rw [Jvm.Cond.before_and, ih, List.all_cons]
def words1 : List Jvm.Cond := Jvm.Cond.code x code maxLocals ret :: tables_1
/-- a 'code' word, met by the world's own term for the bytes: nothing is compared byte by byte -/
theorem code_word {y : MethodName} {bytes : ByteArray} {mx : Nat} {rt : Option FieldType} {a : Array Value} {s : State} {m : MethodId} {meth : Method} {c : Code} (h1 : s.methodNamed? y = some m) (h2 : s.vm.method? m = some meth) (h3 : meth.code = some c) (h4 : c.code = bytes)
    (h5 : (c.maxLocals == mx && c.exceptionTable.isEmpty && decide (c.maxStack ≤ mostOperands) && decide (meth.sig.returnType = rt) && !meth.locks && decide (parseMethodDescriptor y.desc = some meth.sig)) = true) : (Jvm.Cond.code y bytes mx rt).before a s = true := by
  simp only [Bool.and_eq_true, beq_iff_eq, Bool.not_eq_true', decide_eq_true_eq] at h5
  obtain ⟨⟨⟨⟨⟨g1, g2⟩, g3⟩, g4⟩, g5⟩, g6⟩ := h5
  simp [Cond.before, Cond.holds, Cond.value, h1, h2, h3, h4, g1, g2, g3, g4, g5, g6]
def isCode : Jvm.Cond → Bool
  | .code _ _ _ _ => true
  | _ => false
theorem all_split {L : List Jvm.Cond} {P : Jvm.Cond → Bool} (h1 : L.all (fun c => isCode c || P c) = true) (h2 : ∀ c ∈ L.filter isCode, P c = true) : L.all P = true := by
  refine List.all_eq_true.mpr fun c hc => ?_
  have h := List.all_eq_true.mp h1 c hc
  rcases Bool.eq_false_or_eq_true (isCode c) with hi | hi
  · exact h2 c (List.mem_filter.mpr ⟨hc, hi⟩)
  · simpa [hi] using h
set_option maxRecDepth 65536 in
theorem w_c0 : (Jvm.Cond.code x code maxLocals ret).before args0 about1 = true := code_word (m := ⟨1, 3⟩) (meth := k1m3) (c := k1c3) (by decide +kernel) rfl rfl rfl (by decide +kernel)
set_option maxRecDepth 65536 in
theorem w_c1 : (Jvm.Cond.code ({ cls := "com/example/hazy_set/hazyset/MurmurHash3", name := "finalMix", desc := "(J)J" } : Jvm.MethodName) prog_15_method_8_code (4 : Nat) (Option.some Jvm.ClassFile.FieldType.long)).before args0 about1 = true := code_word (m := ⟨2, 1⟩) (meth := k2m1) (c := k2c1) (by decide +kernel) rfl rfl rfl (by decide +kernel)
set_option maxRecDepth 65536 in
theorem w_c2 : (Jvm.Cond.code ({ cls := "com/example/hazy_set/hazyset/MurmurHash3FinalMixPinLaw", name := "unmix", desc := "(J)J" } : Jvm.MethodName) method_3_code (4 : Nat) (Option.some Jvm.ClassFile.FieldType.long)).before args0 about1 = true := code_word (m := ⟨1, 2⟩) (meth := k1m2) (c := k1c2) (by decide +kernel) rfl rfl rfl (by decide +kernel)
set_option maxRecDepth 65536 in
theorem w_c3 : (Jvm.Cond.code ({ cls := "com/example/hazy_set/hazyset/MurmurHash3FinalMixPinLaw", name := "inverseOdd", desc := "(J)J" } : Jvm.MethodName) method_2_code (4 : Nat) (Option.some Jvm.ClassFile.FieldType.long)).before args0 about1 = true := code_word (m := ⟨1, 1⟩) (meth := k1m1) (c := k1c1) (by decide +kernel) rfl rfl rfl (by decide +kernel)
def codes1 : List Jvm.Cond := [Jvm.Cond.code x code maxLocals ret, Jvm.Cond.code ({ cls := "com/example/hazy_set/hazyset/MurmurHash3", name := "finalMix", desc := "(J)J" } : Jvm.MethodName) prog_15_method_8_code (4 : Nat) (Option.some Jvm.ClassFile.FieldType.long), Jvm.Cond.code ({ cls := "com/example/hazy_set/hazyset/MurmurHash3FinalMixPinLaw", name := "unmix", desc := "(J)J" } : Jvm.MethodName) method_3_code (4 : Nat) (Option.some Jvm.ClassFile.FieldType.long), Jvm.Cond.code ({ cls := "com/example/hazy_set/hazyset/MurmurHash3FinalMixPinLaw", name := "inverseOdd", desc := "(J)J" } : Jvm.MethodName) method_2_code (4 : Nat) (Option.some Jvm.ClassFile.FieldType.long)]
set_option maxRecDepth 65536 in
theorem codes_eq : words1.filter isCode = codes1 := rfl
theorem w_codes : ∀ c ∈ words1.filter isCode, c.before args0 about1 = true := by
  rw [codes_eq]
  intro c hc
  simp only [codes1, List.mem_cons, List.not_mem_nil, or_false] at hc
  rcases hc with rfl | rfl | rfl | rfl
  · exact w_c0
  · exact w_c1
  · exact w_c2
  · exact w_c3
set_option maxRecDepth 65536 in
theorem w_t1 : words1.all (fun c => isCode c || c.before args0 about1) = true := by decide +kernel
theorem w_tables : (allAtoms (Jvm.Cond.code x code maxLocals ret :: tables_1)).before args0 about1 = true := by
  rw [allAtoms_all]
  show words1.all (fun c => c.before args0 about1) = true
  refine all_split ?_ w_codes
  rw [w_t1]
set_option maxRecDepth 65536 in
theorem w_case : (Jvm.Cond.and given_1 narrow_1).before args0 about1 = true := by decide +kernel
theorem w_applies : (headSpec (Jvm.Cond.code x code maxLocals ret :: tables_1) room_1).applies x e0.platform about1 = true :=
  (Spec.applies_iff w_frames).mpr ⟨w_running, w_runnable, w_alone, w_named, w_hears, w_ripe, w_room, w_tables⟩
theorem atStart : AtStart classFile x code maxLocals ret World_1 tables_1 room_1 Calls_1 rest_1 Pre_1 launch0 p0 e0 about1 theMethod args0 below0 :=
  ⟨lists_1, trivial, launch0.admits_env _ _ _, launch0.least_env, fairChoices_fair.cas, fairChoices_fair.clock, w_frames, w_args, w_heap, w_applies, trivial, trivial, w_case⟩
end start1
theorem witness_1 : WitnessClaimed_1 := ⟨start1.p0, start1.e0, start1.about1, start1.theMethod, start1.args0, start1.below0, start1.atStart⟩
end Jvm.Pilot.@@N@@
