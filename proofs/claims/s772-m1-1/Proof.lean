import JvmDerived
import JvmDerived.Pilot.@@N@@Statement
import JvmDerived.Pilot.@@N@@Code
set_option linter.unusedVariables false
set_option linter.unusedSimpArgs false
@@BLOCK:NumsL.lean.txt@@
namespace Jvm.RoadKit
open Sem ClassFile Op Lib Jvm.Stand Jvm.Free Jvm.LawKit
section Own
variable {p : Program} {l : Launch} {e : Env} {R : Room} {s : State} {m : MethodId} {args : Array Value} {below : List Frame} {meth : Method} {c : Code} {T : State} {locs : List Loc} {cells slots : Nat}
/-- from t the run ends in a return of which Q holds -/
def OGo (p : Program) (e : Env) (below : List Frame) (s : State) (Q : Option Value → Heap → List Loc → Prop) (C N : Nat) (t : State) : Prop :=
  ∃ s₂ o, Steps p.tables e below t s₂ ∧ s₂.status = .running ∧ Ended s₂ below o ∧ ∃ v L, o = .returned v ∧ Q v s₂.heap L ∧ FrameEnd s o s₂ L C N
theorem OGo.st {Q : Option Value → Heap → List Loc → Prop} {C N : Nat} {t t' : State} (k : ∀ target, Steps p.tables e below t' target → Steps p.tables e below t target) (h : OGo p e below s Q C N t') : OGo p e below s Q C N t := by
  obtain ⟨s₂, o, a, r⟩ := h; exact ⟨s₂, o, k _ a, r⟩
theorem oretW {Q : Option Value → Heap → List Loc → Prop} {C N : Nat} (X : Stand p l e R s m args below meth c T locs cells slots) (hx : p.tables.exec = Jvm.exec) (hlk : meth.locks = false) {pc : Nat} {Ls : Array Slot} {w : Value} {t : FieldType} {i : Instr} {rest : List Value} (hret : meth.sig.returnType = some t) (hn : narrow t w = w)
    (hi : (i = .ireturn ∧ (t = .int ∨ t = .boolean ∨ t = .byte ∨ t = .char ∨ t = .short) ∧ ∃ z, w = .int z) ∨ (i = .lreturn ∧ t = .long ∧ ∃ z, w = .long z) ∨ (i = .dreturn ∧ t = .double ∧ ∃ z, w = .double z) ∨ (i = .freturn ∧ t = .float ∧ ∃ z, w = .float z) ∨ (i = .areturn ∧ t.isReference = true ∧ w.isRef = true))
    (hd : decode c.code pc = .ok (i, 1)) {h : Heap} (hh : T.heap = h) (hq : Q (some w) h locs) (hC : cells ≤ C) (hN : slots ≤ N) : OGo p e below s Q C N (T.setTop (mkF m pc Ls (w :: rest))) := by
  obtain ⟨fs, hr, hrun, hended, hW, hsame⟩ := X.leave (v := some w) (fun h => by rw [hret] at h; cases h) hlk
  exact ⟨_, _, retOut X hx hret hn hi hd hr, hrun, hended, _, _, rfl, hh ▸ hq, ⟨_, rfl⟩, hW, hsame.mono hC hN⟩
theorem oretI {Q : Option Value → Heap → List Loc → Prop} {C N : Nat} (X : Stand p l e R s m args below meth c T locs cells slots) (hx : p.tables.exec = Jvm.exec) (hlk : meth.locks = false) {pc : Nat} {Ls : Array Slot} {z : Int32} {rest : List Value} (hret : meth.sig.returnType = some .int)
    (hd : decode c.code pc = .ok (.ireturn, 1)) {h : Heap} (hh : T.heap = h) (hq : Q (some (.int z)) h locs) (hC : cells ≤ C) (hN : slots ≤ N) : OGo p e below s Q C N (T.setTop (mkF m pc Ls (.int z :: rest))) :=
  oretW X hx hlk hret rfl (Or.inl ⟨rfl, Or.inl rfl, _, rfl⟩) hd hh hq hC hN
theorem oretJ {Q : Option Value → Heap → List Loc → Prop} {C N : Nat} (X : Stand p l e R s m args below meth c T locs cells slots) (hx : p.tables.exec = Jvm.exec) (hlk : meth.locks = false) {pc : Nat} {Ls : Array Slot} {z : Int64} {rest : List Value} (hret : meth.sig.returnType = some .long)
    (hd : decode c.code pc = .ok (.lreturn, 1)) {h : Heap} (hh : T.heap = h) (hq : Q (some (.long z)) h locs) (hC : cells ≤ C) (hN : slots ≤ N) : OGo p e below s Q C N (T.setTop (mkF m pc Ls (.long z :: rest))) :=
  oretW X hx hlk hret rfl (Or.inr (Or.inl ⟨rfl, rfl, _, rfl⟩)) hd hh hq hC hN
theorem onarR {t : FieldType} {w : Value} (ht : t.isReference = true) (hw : w.isRef = true) : narrow t w = w := by
  cases t <;> first | (cases ht; done) | (cases w <;> first | rfl | (cases hw; done))
theorem ofitR {t : FieldType} {w : Value} (ht : t.isReference = true) (hw : w.isRef = true) : fits t w = true := by
  cases t <;> first | (cases ht; done) | (cases w <;> first | rfl | (cases hw; done))
theorem oretA {Q : Option Value → Heap → List Loc → Prop} {C N : Nat} (X : Stand p l e R s m args below meth c T locs cells slots) (hx : p.tables.exec = Jvm.exec) (hlk : meth.locks = false) {pc : Nat} {Ls : Array Slot} {w : Value} {t : FieldType} {rest : List Value} (hret : meth.sig.returnType = some t) (ht : t.isReference = true) (hw : w.isRef = true)
    (hd : decode c.code pc = .ok (.areturn, 1)) {h : Heap} (hh : T.heap = h) (hq : Q (some w) h locs) (hC : cells ≤ C) (hN : slots ≤ N) : OGo p e below s Q C N (T.setTop (mkF m pc Ls (w :: rest))) :=
  oretW X hx hlk hret (onarR ht hw) (Or.inr (Or.inr (Or.inr (Or.inr ⟨rfl, ht, hw⟩)))) hd hh hq hC hN
theorem oretN {Q : Option Value → Heap → List Loc → Prop} {C N : Nat} (X : Stand p l e R s m args below meth c T locs cells slots) (hx : p.tables.exec = Jvm.exec) (hlk : meth.locks = false) {pc : Nat} {Ls : Array Slot} {z z' : Int32} {t : FieldType} {rest : List Value} (hret : meth.sig.returnType = some t) (ht : t = .boolean ∨ t = .byte ∨ t = .char ∨ t = .short)
    (hd : decode c.code pc = .ok (.ireturn, 1)) (hz : nar t z = z') {h : Heap} (hh : T.heap = h) (hq : Q (some (.int z')) h locs) (hC : cells ≤ C) (hN : slots ≤ N) : OGo p e below s Q C N (T.setTop (mkF m pc Ls (.int z :: rest))) := by
  subst hz
  obtain ⟨fs, hr, hrun, hended, hW, hsame⟩ := X.leave (v := some (.int (nar t z))) (fun h => by rw [hret] at h; cases h) hlk
  exact ⟨_, _, retN X hx hret ht hd hr, hrun, hended, _, _, rfl, hh ▸ hq, ⟨_, rfl⟩, hW, hsame.mono hC hN⟩
theorem oret0 {Q : Option Value → Heap → List Loc → Prop} {C N : Nat} (X : Stand p l e R s m args below meth c T locs cells slots) (hx : p.tables.exec = Jvm.exec) (hlk : meth.locks = false) {pc : Nat} {Ls : Array Slot} (hret : meth.sig.returnType = none)
    (hd : decode c.code pc = .ok (.return_, 1)) {h : Heap} (hh : T.heap = h) (hq : Q none h locs) (hC : cells ≤ C) (hN : slots ≤ N) : OGo p e below s Q C N (T.setTop (mkF m pc Ls [])) := by
  obtain ⟨fs, hr, hrun, hended, hW, hsame⟩ := X.leave (v := none) (fun _ => rfl) hlk
  exact ⟨_, _, X.returnOut hx hret hd hr, hrun, hended, _, _, rfl, hh ▸ hq, ⟨_, rfl⟩, hW, hsame.mono hC hN⟩
theorem olrem {tb : Tables} [Ours tb] {target : State} {g : JFrame} (h : At T m c below) (hx : tb.exec = Jvm.exec) (hg : g.method = m) {x y : Int64} {rest : List Value} (hd : decode c.code g.pc = .ok (.lrem, 1)) (hs : g.stack = .long y :: .long x :: rest) (hy : y ≠ 0)
    (hr : Steps tb e below (T.setTop { g with pc := g.pc + 1, stack := .long (x % y) :: rest }) target) : Steps tb e below (T.setTop g) target :=
  XS.lrem h hx hg hd hs hy (by rw [lrem_mod]; exact hr)
theorem olc_lt (x y : Int64) : lcmpW x y < 0 ↔ x < y := by rw [lcW]; exact lc_lt x y
theorem olc_gt (x y : Int64) : 0 < lcmpW x y ↔ y < x := by rw [lcW]; exact lc_gt x y
theorem olc_eq (x y : Int64) : lcmpW x y = 0 ↔ x = y := by rw [lcW]; exact lc_eq x y
theorem onilP {v : Int} : ∀ q ∈ ([] : List (Int × Int)), q.1 ≠ v := fun _ q => nomatch q
theorem oconsP {v a b : Int} {l : List (Int × Int)} (h : a ≠ v) (t : ∀ q ∈ l, q.1 ≠ v) : ∀ q ∈ (a, b) :: l, q.1 ≠ v := fun q hq => (List.mem_cons.mp hq).elim (fun u => by rw [u]; exact h) (t q)
theorem oint_ne {z k : Int32} {K : Int} (h : ¬ z = k) (hk : k.toInt = K) : K ≠ z.toInt := fun q => h (Int32.toInt_inj.mp (by rw [hk, q]))
theorem ofld_eq {Z : State} {t : Term} {C n d : String} {a : Addr} {k : Int32} (h : (Cond.eq (Term.field t C n d) (Term.int k)).value args Z none Z [] = some true) (ev : t.eval args Z none [] Z = some (.ref a)) : Fld Z Z.heap a C n d (.int k) := by
  apply Fld.start
  have q := fld_at (args := args) (first := Z) (o := none) (idx := []) (s := Z) (C := C) (n := n) (dd := d) ev
  simp only [Cond.value, q, Term.int_eval] at h
  cases hv : Z.fieldOf? a C n d with
  | none => simp [hv] at h
  | some v => cases v <;> simp [hv] at h <;> simp [h]
section Imp
variable {E a b : Int32}
theorem oLL (h : E < a) (k : a.toInt ≤ b.toInt) : E < b := by rw [Int32.lt_iff_toInt_lt] at *; omega
theorem oLnG (h : E < a) (k : a.toInt ≤ b.toInt + 1) : ¬ b < E := by rw [Int32.lt_iff_toInt_lt] at *; omega
theorem oLnE (h : E < a) (k : a.toInt ≤ b.toInt) : ¬ E = b := fun q => by subst q; rw [Int32.lt_iff_toInt_lt] at h; omega
theorem oGG (h : a < E) (k : b.toInt ≤ a.toInt) : b < E := by rw [Int32.lt_iff_toInt_lt] at *; omega
theorem oGnL (h : a < E) (k : b.toInt ≤ a.toInt + 1) : ¬ E < b := by rw [Int32.lt_iff_toInt_lt] at *; omega
theorem oGnE (h : a < E) (k : b.toInt ≤ a.toInt) : ¬ E = b := fun q => by subst q; rw [Int32.lt_iff_toInt_lt] at h; omega
theorem onLnL (h : ¬ E < a) (k : b.toInt ≤ a.toInt) : ¬ E < b := by rw [Int32.lt_iff_toInt_lt] at *; omega
theorem onLG (h : ¬ E < a) (k : b.toInt < a.toInt) : b < E := by rw [Int32.lt_iff_toInt_lt] at *; omega
theorem onLnE (h : ¬ E < a) (k : b.toInt < a.toInt) : ¬ E = b := fun q => by subst q; rw [Int32.lt_iff_toInt_lt] at h; omega
theorem onGnG (h : ¬ a < E) (k : a.toInt ≤ b.toInt) : ¬ b < E := by rw [Int32.lt_iff_toInt_lt] at *; omega
theorem onGL (h : ¬ a < E) (k : a.toInt < b.toInt) : E < b := by rw [Int32.lt_iff_toInt_lt] at *; omega
theorem onGnE (h : ¬ a < E) (k : a.toInt < b.toInt) : ¬ E = b := fun q => by subst q; rw [Int32.lt_iff_toInt_lt] at h; omega
end Imp
end Own
end Jvm.RoadKit
namespace Jvm.RoadKit
open Sem ClassFile Op Lib Jvm.Stand Jvm.Free Jvm.LawKit
section OwnArr
variable {p : Program} {l : Launch} {e : Env} {R : Room} {s : State} {m : MethodId} {args : Array Value} {below : List Frame} {meth : Method} {c : Code} {T : State} {locs : List Loc} {cells slots : Nat} {Z : State} {a0 : Array Value} {h h' : Heap} {a : Addr} {k : ClassId} {ty : FieldType} {z : Int32} {vs : List Value} {dv : Value}
theorem ofitc {cl : Cell} (A : Arr Z h a cl ty) (H : Has cl vs dv) (G : ∀ i, i < cl.slots.size → fits ty (vs.getD i dv) = true) : FitC Z cl := fun i v hv => by
  obtain ⟨hi, -⟩ := Array.getElem?_eq_some_iff.mp hv
  have q := (H i hi).symm.trans hv
  obtain ⟨-, kk, hk, comp, hkind⟩ := A.2.1
  have g := G i hi
  rw [Option.some.inj q] at g
  simp [State.fitsSlot, State.slotType?, hk, hkind, g]
theorem ocloneV (X : Stand p l e R s m args below meth c T locs cells slots) (hx : p.tables.exec = Jvm.exec) (hZ : Z.Warmed39 s.vm) {own ad : String} {index : Nat} (hown : s.vm.findClass own = some m.cls)
    (w1 : (Cond.methodLink own index ⟨ad, "clone", "()Ljava/lang/Object;"⟩).before a0 Z = true) (w2 : (Cond.sameMethod ad "java/lang/Object" "clone" "()Ljava/lang/Object;").before a0 Z = true) (w3 : (Cond.native ⟨"java/lang/Object", "clone", "()Ljava/lang/Object;"⟩).before a0 Z = true)
    (w4 : (Cond.instanceMethod ⟨"java/lang/Object", "clone", "()Ljava/lang/Object;"⟩).before a0 Z = true) (w5 : (Cond.selects ad ⟨ad, "clone", "()Ljava/lang/Object;"⟩ ⟨"java/lang/Object", "clone", "()Ljava/lang/Object;"⟩).before a0 Z = true) (w6 : (Cond.castable ad "java/lang/Cloneable").before a0 Z = true)
    (eT : T.heap = h) (V : Arv Z h a k ty z vs dv) (E : Exa Z h a ad) {g : JFrame} (hg : g.method = m) (hsize : g.locals.size = c.maxLocals) {rest : List Value} (hs : g.stack = .ref a :: rest) (hd : decode c.code g.pc = .ok (.invokevirtual index, 3))
    (hf : 1 ≤ R.frames) {W cap : Nat} (hW : 2 * g.monitorRoom + (rest.map fun v => v.category).sum ≤ W) (hl : W + 14 ≤ R.locals) (hcap : z.toNatClampNeg ≤ cap) (hc : cells + 1 ≤ R.cells) (hsl : slots + cap ≤ R.slots) :
    ∃ T' h', Stand p l e R s m args below meth c T' locs (cells + 1) (slots + cap) ∧ T'.heap = h' ∧ Ext h h' ∧ Arv Z h' h.size k ty z vs dv ∧ Exa Z h' h.size ad ∧
      ∀ target, Steps p.tables e below (T'.setTop { g with pc := g.pc + 3, stack := .ref h.size :: rest }) target → Steps p.tables e below (T.setTop g) target := by
  obtain ⟨cl, A, q1, q2, q3, H, G⟩ := V
  obtain ⟨T', h', X', e', E', A', Ea, st⟩ := cloneA X hx hZ hown w1 w2 w3 w4 w5 w6 eT A E (ofitc A H G) hg hsize hs hd hf hW hl (by rw [q2]; exact hcap) hc hsl
  exact ⟨T', h', X', e', E', ⟨cloneOf cl, A', q1, q2, q3, H, G⟩, Ea, st⟩
theorem osta_keep {C n d : String} {v : Value} {ws : List Addr} (F : Sta Z h C n d v) (K : Keep h h' ws) (hq : ∀ (st : Addr) (cell : Cell), h[st]? = some cell → cell.vm.isStatics = true → st ∉ ws) : Sta Z h' C n d v := by
  obtain ⟨cf, i, kk, f, st, cell, h1, h2, h3, h4, h5, h6, h7⟩ := F
  exact ⟨cf, i, kk, f, st, cell, h1, h2, h3, h4, K.2.1 st cell h5 (hq st cell h5 h6), h6, h7⟩
theorem osta_exa {C : String} {ws : List Addr} {o : Addr} (E : Exa Z h o C) (r : ∀ (st : Addr) (cell : Cell), h[st]? = some cell → cell.vm.isStatics = true → st ∉ ws) : ∀ (st : Addr) (cell : Cell), h[st]? = some cell → cell.vm.isStatics = true → st ∉ o :: ws := fun st cell h1 h2 => ninS (fun q => by
  subst q
  obtain ⟨c1, -, e1, -, -, e4, -⟩ := E
  cases e1.symm.trans h1
  rw [e4] at h2; cases h2) (r st cell h1 h2)
theorem osta_arr {cl : Cell} {ws : List Addr} {o : Addr} (A : Arr Z h o cl ty) (r : ∀ (st : Addr) (cell : Cell), h[st]? = some cell → cell.vm.isStatics = true → st ∉ ws) : ∀ (st : Addr) (cell : Cell), h[st]? = some cell → cell.vm.isStatics = true → st ∉ o :: ws := fun st cell h1 h2 => ninS (fun q => by
  subst q
  cases A.1.symm.trans h1
  have := A.plain
  rw [this] at h2; cases h2) (r st cell h1 h2)
theorem osta_arv {ws : List Addr} {o : Addr} (V : Arv Z h o k ty z vs dv) (r : ∀ (st : Addr) (cell : Cell), h[st]? = some cell → cell.vm.isStatics = true → st ∉ ws) : ∀ (st : Addr) (cell : Cell), h[st]? = some cell → cell.vm.isStatics = true → st ∉ o :: ws := by
  obtain ⟨cl, A, -⟩ := V; exact osta_arr A r
theorem oelem {t u : Term} {cl : Cell} {j : Int32} {w : Addr} (hh : (Cond.eq (Term.elem t (Term.int j)) u).value args Z none Z [] = some true) (ev : t.eval args Z none [] Z = some (.ref a)) (hc : Z.heap[a]? = some cl) (eu : u.eval args Z none [] Z = some (.ref w)) : cl.slots[j.toNatClampNeg]? = some (.ref w) := by
  obtain ⟨x, y, e1, e2, k1, k2⟩ := cmp_v (Or.inl hh)
  have q := elem_in e1 ev (Term.int_eval j) hc
  cases eu.symm.trans e2
  have hr : x.isRef = true := by cases x <;> simp_all [Kin, Value.isRef]
  have := gotT (eq_R e1 e2 hr rfl) hh
  rw [q.2, this]
theorem olen {t : Term} {cl : Cell} {n : Int32} (hh : (Cond.eq (Term.length t) (Term.int n)).value args Z none Z [] = some true) (ev : t.eval args Z none [] Z = some (.ref a)) (A : Arr Z Z.heap a cl ty) : cl.slots.size < 2 ^ 31 ∧ cl.slots.size.toInt32 = n := by
  obtain ⟨x, y, e1, e2, k1, k2⟩ := cmp_v (Or.inl hh)
  have hA := A.fin (Vm.Alike.refl _)
  by_cases hl : cl.slots.size < 2 ^ 31
  · refine ⟨hl, ?_⟩
    have q := len_f (args := args) (first := Z) (o := none) (idx := []) (s := Z) ev hA hl
    simp [Cond.value, q, Term.int_eval] at hh
    exact hh
  · simp [Term.eval, ev, hA, hl] at e1
end OwnArr
end Jvm.RoadKit
namespace Jvm.RoadKit
open Sem ClassFile Op Lib Jvm.Stand Jvm.Free Jvm.LawKit
section OwnRef
variable {p : Program} {l : Launch} {e : Env} {R : Room} {s : State} {m : MethodId} {args : Array Value} {below : List Frame} {meth : Method} {c : Code} {T : State} {locs : List Loc} {cells slots : Nat} {Z : State} {a0 : Array Value} {h : Heap}
/-- getfield through an entry that is resolved already -/
theorem ogetFR (X : Stand p l e R s m args below meth c T locs cells slots) (hx : p.tables.exec = Jvm.exec) (hZ : Z.Warmed39 s.vm) {own O n d : String} {index : Nat} (hown : s.vm.findClass own = some m.cls) (w : (Cond.fieldRef own index O n d).before a0 Z = true)
    (eT : T.heap = h) {a : Addr} {v : Value} (F : Fld Z h a O n d v) {g : JFrame} (hg : g.method = m) {rest : List Value} (hs : g.stack = .ref a :: rest) (hd : decode c.code g.pc = .ok (.getfield index, 3)) {target : State}
    (hr : Steps p.tables e below (T.setTop { g with pc := g.pc + 3, stack := v :: rest }) target) : Steps p.tables e below (T.setTop g) target := by
  obtain ⟨cell, cf, k, i, f, h1, h2, h3, h4, -, -, h7⟩ := F
  have hZT : Z.Warmed39 T.vm := wtrans hZ X.warmed
  have q := Cond.fieldRef_warmed39 hZT w
  have hc : (Z.setVm T.vm).vm.findClass own = some m.cls := (X.warmed.alike.findClass own _).trans hown
  obtain ⟨c', k', i', f', r1, r2⟩ := Cond.fieldRef_spec hc q
  obtain ⟨k'', r3, -⟩ := State.fieldFound?_setVm (s := Z) hZT.alike h2
  cases r1.symm.trans r3
  exact (X.getfieldR hx hg r2 h3 hs (by rw [eT]; exact h1) h4 h7 hd (Steps.refl _)).trans hr
theorem onotFace {r o n d : String} {c1 : ClassId} (w : (Cond.sameMethod r o n d).before a0 Z = true) (hc : Z.vm.findClass r = some c1) : ∃ k, Z.vm.classes[c1]? = some k ∧ k.isInterface = false := by
  cases hf : Z.methodFound? r n d with
  | none => simp [Cond.before, Cond.holds, Cond.value, hc, hf] at w
  | some y => exact (Cond.sameMethod_spec hc hf w).2
/-- a private method called through an entry that is resolved already -/
theorem oprivR (X : Stand p l e R s m args below meth c T locs cells slots) (hx : p.tables.exec = Jvm.exec) (hZ : Z.Warmed39 s.vm) {own : String} {index : Nat} {y : MethodName} {bytes : ByteArray} {maxL : Nat} {ret : Option FieldType} {o' n' d' : String}
    (hown : s.vm.findClass own = some m.cls) (w1 : (Cond.methodRef own index y).before a0 Z = true) (w2 : (Cond.instanceMethod y).before a0 Z = true) (w3 : (Cond.privateMethod y).before a0 Z = true) (w4 : (Cond.code y bytes maxL ret).before a0 Z = true)
    (w5 : (Cond.sameMethod y.cls o' n' d').before a0 Z = true) (hy : y.cls ≠ "java/lang/invoke/MethodHandle" ∧ y.cls ≠ "java/lang/invoke/VarHandle")
    {W : Nat} {Pre : Pt → Array Value → Prop} {Post : Pt → Array Value → Option Value → Pt → Prop} (hK : Back l R p e below s args y 3 W Pre Post)
    (eT : T.heap = h) {a : Addr} {C : String} (E : Exa Z h a C) {g : JFrame} (hg : g.method = m) (hsize : g.locals.size = c.maxLocals)
    {argsL rest : List Value} (hlen : ∀ sig, parseMethodDescriptor y.desc = some sig → argsL.length = sig.parameters.length)
    (hstack : g.stack = argsL.reverse ++ .ref a :: rest) (hW : 2 * g.monitorRoom + (rest.map fun v => v.category).sum ≤ W) (hdg : decode c.code g.pc = .ok (.invokevirtual index, 3))
    (hpre : ∀ vm₁, s.WarmedH vm₁ → Pre ⟨T.setVm vm₁, locs, cells, slots⟩ (.ref a :: argsL).toArray) :
    ∃ (v : Option Value) (vm₁ : Vm) (B : Pt), s.WarmedH vm₁ ∧ Stand p l e R s m args below meth c B.U B.locs B.cells B.slots ∧ Post ⟨T.setVm vm₁, locs, cells, slots⟩ (.ref a :: argsL).toArray v B ∧
      Steps p.tables e below (T.setTop g) (B.U.setTop { g with pc := g.pc + 3, stack := v.toList ++ rest }) := by
  obtain ⟨mk, methM, hn, hm, hst, hab⟩ := Cond.instanceMethod_spec (mv (args := args) hZ w2)
  obtain ⟨m2, cM, q1, -, -, -, -, -, -, hsig⟩ := Cond.code_spec hn (mv (args := args) hZ w4)
  cases hm.symm.trans q1
  have hpr := Cond.privateMethod_at (mvP (args := args) hZ w3) mk methM hn hm
  have hZT : Z.Warmed39 T.vm := wtrans hZ X.warmed
  have hA := X.warmed.alike
  have hnZ : Z.methodNamed? y = some mk := (State.methodNamed?_setVm (s := Z) hZ.alike y).symm.trans hn
  have q := Cond.methodRef_warmed39 hZT hnZ hy w1
  have hc : (Z.setVm T.vm).vm.findClass own = some m.cls := (hA.findClass own _).trans hown
  obtain ⟨m', c', f1, f2, f3, f4⟩ := Cond.methodRef_named e hc q
  have hnT : (Z.setVm T.vm).methodNamed? y = some mk := (State.methodNamed?_setVm (s := Z) hZT.alike y).trans hnZ
  cases (State.methodFound?_of_named hnT hy).symm.trans f1
  cases (findClass_of_methodNamed hnT).symm.trans f3
  obtain ⟨kZ, z1, z2⟩ := onotFace w5 (findClass_of_methodNamed hnZ)
  obtain ⟨kT, z3, z4⟩ := hZT.alike.2.2 _ _ z1
  have z5 : kT.isInterface = false := by
    have : kT.isInterface = kZ.isInterface := by rw [z4]; rfl
    rw [this]; exact z2
  obtain ⟨kN, n1, n2⟩ := className_of_methodNamed hnT
  cases n1.symm.trans z3
  have hmT : T.vm.method? mk = some methM := by rw [hA.method?]; exact hm
  obtain ⟨cell, -, e1, -, -, e4, -⟩ := E
  have hobj : ∀ q, cell.vm ≠ .statics q := fun q e => by rw [e] at e4; cases e4
  obtain ⟨v, B, X', hpost, hsteps⟩ := hK m meth c ⟨T.setVm T.vm, locs, cells, slots⟩ { g with stack := rest } (.invokevirtual index) mk (.ref a :: argsL).toArray X hg hsize hdg hW (X.named hn) (hpre T.vm X.warmed)
  refine ⟨v, T.vm, B, X.warmed, X', hpost, Steps.trans ?_ hsteps⟩
  subst hg
  jvm_step X.here [hx, hdg, invokevirtual.wp_named (e := e) (s := T) (r := mk) (m := mk) (c' := mk.cls) (k := kT) (k' := kT) (mk := kT) (rmeth := methM) (meth := methM) (a := a) (args := argsL) (rest := rest) (cell := cell) (f := g) X.here.top f4 z3 z5 f2 z3 hmT (signaturePolymorphic_of_name (by rw [n2]; exact hy) methM) hst (hlen _ hsig) hstack (by rw [eT]; exact e1) hobj (selectMethod_private hmT hpr) hmT hab z3 z5]
  intro acts
  rw [doInvoke_state]
  exact Steps.refl _
theorem onsRoot {O K : String} {n : Nat} (w : (Cond.noSuperclass O).before a0 Z = true) (wk : (Cond.instantiable K n).before a0 Z = true) (hn : O ≠ K) : NS Z O K := by
  obtain ⟨c1, k, h1, h2, h3, -, -⟩ := Cond.noSuperclass_spec w
  obtain ⟨t, -, g1, -⟩ := Cond.instantiable_spec wk
  have ne := ids_ne h1 g1 hn
  exact ⟨c1, t, h1, g1, fun fuel => by cases fuel <;> simp [Vm.isSubclassAux, ne, h2, h3]⟩
theorem onsNo {C S K : String} {n : Nat} (w : (Cond.superclass C S).before a0 Z = true) (wk : (Cond.instantiable K n).before a0 Z = true) (q : NS Z C K) (hn : C ≠ K) : ∃ c t, Z.vm.findClass C = some c ∧ Z.vm.findClass K = some t ∧ Z.vm.assignable c t = false := by
  obtain ⟨c1, t, h0, g0, n3⟩ := q
  obtain ⟨-, k, -, -, h2, -, -, h5, -, -⟩ := Cond.superclass_spec h0 w
  obtain ⟨t', kt, g1, g2, g3, g4, -, -⟩ := Cond.instantiable_spec wk
  cases g0.symm.trans g1
  have gi := (Bool.or_eq_false_iff.mp g4).1
  have ne := ids_ne h0 g0 hn
  refine ⟨c1, t, h0, g0, ?_⟩
  show Z.vm.assignableAux (255 + 1) c1 t = false
  simp [Vm.assignableAux, ne, h2, g2, h5, g3, gi, Vm.isSubclass, n3]
end OwnRef
end Jvm.RoadKit
namespace Jvm.Pilot.@@N@@
open Jvm Jvm.ClassFile Sem Op Lib Jvm.Free Jvm.Stand Jvm.LawKit Jvm.RoadKit Bundle Jvm.Pilot.@@N@@.Jvm.D

theorem d1_0 : decode jdk_29_method_65_code 0 = .ok (.iload_n 0, 1) := by decide +kernel
theorem d1_1 : decode jdk_29_method_65_code 1 = .ok (.iload_n 1, 1) := by decide +kernel
theorem d1_2 : decode jdk_29_method_65_code 2 = .ok (.if_icmp .lt 7, 3) := by decide +kernel
theorem d1_5 : decode jdk_29_method_65_code 5 = .ok (.iload_n 0, 1) := by decide +kernel
theorem d1_6 : decode jdk_29_method_65_code 6 = .ok (.goto 4, 3) := by decide +kernel
theorem d1_9 : decode jdk_29_method_65_code 9 = .ok (.iload_n 1, 1) := by decide +kernel
theorem d1_10 : decode jdk_29_method_65_code 10 = .ok (.ireturn, 1) := by decide +kernel
theorem ef_1 (m : MethodId) (p0 : Int32) (p1 : Int32) : entryFrame m #[(.int p0), (.int p1)] 2 = mkF m 0 #[.val (.int p0), .val (.int p1)] [] := by first | (simp [entryFrame, mkF, argsToLocals, Value.category]; done) | rfl
def f1 (p0 : Int32) (p1 : Int32) : Int32 := (if p0 < p1 then p1 else p0)
def Q1 (Z : State) (p0 : Int32) (p1 : Int32) (h0 : Heap) (n0 : Nat) (v : Option Value) (h : Heap) (L : List Loc) : Prop := v = some (.int (f1 p0 p1)) ∧ Fr n0 L ∧ h = h0
set_option maxRecDepth 65536 in
set_option maxHeartbeats 40000000 in
theorem rm1 (l : Launch) (Z : State) (a0 : Array Value) (hw : ∀ d ∈ tables_1, d.before a0 Z = true) (ws : List Jvm.Cond) (p0 : Int32) (p1 : Int32) (h0 : Heap) (n0 : Nat) (Z0 : n0 ≤ h0.size) :
    MetFree l (⟨"java/lang/Math", "max", "(II)I"⟩ : MethodName) (head1 (Jvm.Cond.code (⟨"java/lang/Math", "max", "(II)I"⟩ : MethodName) jdk_29_method_65_code 2 (some .int) :: ws) ({ frames := 0, cells := 0, slots := 0, locals := 0 } : Room)) (fun a U => a = #[(.int p0), (.int p1)] ∧ Z.Warmed39 U.vm ∧ U.heap = h0) (fun _ _ _ _ _ => True) (fun _ U o U' => ∃ v L, o = .returned v ∧ Q1 Z p0 p1 h0 n0 v U'.heap L ∧ FrameEnd U o U' L ({ frames := 0, cells := 0, slots := 0, locals := 0 } : Room).cells ({ frames := 0, cells := 0, slots := 0, locals := 0 } : Room).slots) := by
  refine MetFree.of_bodySF (Jvm.Free.JP.mathPlain rfl (by decide +kernel)) hisR ?_
  intro p e s m args below meth c s₁ Bd hml0 hP hK
  obtain ⟨rfl, hZ, hh⟩ := hP
  have hx := Bd.exec
  have hby := Bd.bytes
  have hml : c.maxLocals = 2 := hml0
  have hown : s.vm.findClass "java/lang/Math" = some m.cls := findClass_of_methodNamed Bd.named
  have hnm := (name_of_methodNamed Bd.named Bd.method).1
  have X0 : Stand p l e ({ frames := 0, cells := 0, slots := 0, locals := 0 } : Room) s m #[(.int p0), (.int p1)] below meth c s₁ [] 0 0 := Stand.of_body Bd
  have e0 : s₁.heap = h0 := by rw [← hh, Bd.state]; rfl
  have N0 := Fr.nil n0
  show OGo p e below s (Q1 Z p0 p1 h0 n0) ({ frames := 0, cells := 0, slots := 0, locals := 0 } : Room).cells ({ frames := 0, cells := 0, slots := 0, locals := 0 } : Room).slots _
  refine OGo.st (fun _ k => castTop (ef_1 m p0 p1) k) ?_
  show OGo p e below s _ _ _ (s₁.setTop (mkF m 0 #[.val (.int p0), .val (.int p1)] []))
  refine OGo.st (fun _ k => XS.iloadN X0.here hx rfl (hb hby d1_0) rfl k) ?_
  show OGo p e below s _ _ _ (s₁.setTop (mkF m 1 #[.val (.int p0), .val (.int p1)] [(.int p0)]))
  refine OGo.st (fun _ k => XS.iloadN X0.here hx rfl (hb hby d1_1) rfl k) ?_
  show OGo p e below s _ _ _ (s₁.setTop (mkF m 2 #[.val (.int p0), .val (.int p1)] [(.int p1), (.int p0)]))
  by_cases hc2 : p0 < p1
  · refine OGo.st (fun _ k => XS.icmpYes X0.here hx rfl (pc0 := 2) (pc' := 9) rfl (hb hby d1_2) rfl (tlt hc2).1 (by decide) (by decide) k) ?_
    show OGo p e below s _ _ _ (s₁.setTop (mkF m 9 #[.val (.int p0), .val (.int p1)] []))
    refine OGo.st (fun _ k => XS.iloadN X0.here hx rfl (hb hby d1_9) rfl k) ?_
    show OGo p e below s _ _ _ (s₁.setTop (mkF m 10 #[.val (.int p0), .val (.int p1)] [(.int p1)]))
    exact oretI X0 hx Bd.notSynchronized Bd.returns (hb hby d1_10) e0 ⟨(congrArg (fun z => some (Value.int z)) (show p1 = f1 p0 p1 from Eq.symm (by unfold f1; exact if_pos hc2))), N0, rfl⟩ (by decide) (by decide)
  · refine OGo.st (fun _ k => XS.icmpNo X0.here hx rfl (hb hby d1_2) rfl (flt hc2).1 k) ?_
    show OGo p e below s _ _ _ (s₁.setTop (mkF m 5 #[.val (.int p0), .val (.int p1)] []))
    refine OGo.st (fun _ k => XS.iloadN X0.here hx rfl (hb hby d1_5) rfl k) ?_
    show OGo p e below s _ _ _ (s₁.setTop (mkF m 6 #[.val (.int p0), .val (.int p1)] [(.int p0)]))
    refine OGo.st (fun _ k => XS.goto X0.here hx rfl (pc0 := 6) (pc' := 10) rfl (hb hby d1_6) (by decide) (by decide) k) ?_
    show OGo p e below s _ _ _ (s₁.setTop (mkF m 10 #[.val (.int p0), .val (.int p1)] [(.int p0)]))
    exact oretI X0 hx Bd.notSynchronized Bd.returns (hb hby d1_10) e0 ⟨(congrArg (fun z => some (Value.int z)) (show p0 = f1 p0 p1 from Eq.symm (by unfold f1; exact if_neg hc2))), N0, rfl⟩ (by decide) (by decide)
theorem own_pos (x : Int32) : (0 : Int32) < f1 (1 : Int32) x := by
  unfold f1
  split
  · rename_i h
    simp only [Int32.lt_iff_toInt_lt] at *
    have : (1 : Int32).toInt = 1 := rfl
    have : (0 : Int32).toInt = 0 := rfl
    omega
  · decide
theorem own_nzS {p : Int32} (h : (0 : Int32) < p) : p ≠ 0 := fun q => by subst q; exact absurd h (by decide)
theorem own_nzL {p : Int32} (h : (0 : Int32) < p) : (p + 4 - 1) / 4 ≠ (0 : Int32) := fun q => by
  have q := congrArg Int32.toInt q
  rw [Int32.lt_iff_toInt_lt] at h
  have h4 : (4 : Int32).toInt = 4 := rfl
  have h1 : (1 : Int32).toInt = 1 := rfl
  have h0 : (0 : Int32).toInt = 0 := rfl
  have hb := p.toInt_lt
  rw [Int32.toInt_div, Int32.toInt_sub, Int32.toInt_add, h4, h1, h0] at q
  obtain ⟨x, hx⟩ : ∃ x, x = (((p.toInt + 4).bmod (2 ^ 32)) - 1).bmod (2 ^ 32) := ⟨_, rfl⟩
  rw [← hx] at q
  have hr : (4 ≤ x ∧ x ≤ 2147483647) ∨ (-2147483648 ≤ x ∧ x ≤ -4) := by
    simp only [Int.bmod_def] at hx
    omega
  rw [Int.tdiv_eq_ediv] at q
  simp only [Int.bmod_def] at q
  have h44 : Int.sign 4 = 1 := rfl
  rw [h44] at q
  split at q <;> rename_i hq <;> omega
theorem own_inb {q : Int64} (h1 : ¬ q < (-128 : Int64)) (h2 : ¬ (127 : Int64) < q) : ¬ (q.toInt32 + (128 : Int32)) < 0 ∧ (q.toInt32 + (128 : Int32)) < (256 : Int32) := by
  rw [Int64.lt_iff_toInt_lt] at h1 h2
  have a1 : (-128 : Int64).toInt = -128 := rfl
  have a2 : (127 : Int64).toInt = 127 := rfl
  have a3 : (128 : Int32).toInt = 128 := rfl
  have a4 : (256 : Int32).toInt = 256 := rfl
  have a5 : (0 : Int32).toInt = 0 := rfl
  rw [Int32.lt_iff_toInt_lt, Int32.lt_iff_toInt_lt, Int32.toInt_add, Int64.toInt_toInt32, a3, a4, a5]
  simp only [Int.bmod_def]
  omega
theorem d5_0 : decode jdk_37_method_2_code 0 = .ok (.aload_n 0, 1) := by decide +kernel
theorem d5_1 : decode jdk_37_method_2_code 1 = .ok (.getfield 7, 3) := by decide +kernel
theorem d5_4 : decode jdk_37_method_2_code 4 = .ok (.ireturn, 1) := by decide +kernel
theorem pn_5 : plainName "java/lang/Enum" = true := by first | (simp [plainName, overriddenIn]; done) | decide +kernel
theorem ef_5S (m : MethodId) (o0 : Addr) : entryFrame m #[(.ref o0)] 1 = mkF m 0 #[.val (.ref o0)] [] := by first | (simp [entryFrame, mkF, argsToLocals, Value.category]; done) | rfl
def f5S : Int32 := (0 : Int32)
def Q5S (Z : State) (o0 : Addr) (h0 : Heap) (n0 : Nat) (v : Option Value) (h : Heap) (L : List Loc) : Prop := v = some (.int (f5S)) ∧ Fr n0 L ∧ h = h0
set_option maxRecDepth 65536 in
set_option maxHeartbeats 40000000 in
theorem rm5S (l : Launch) (Z : State) (a0 : Array Value) (hw : ∀ d ∈ tables_1, d.before a0 Z = true) (ws : List Jvm.Cond) (o0 : Addr) (h0 : Heap) (n0 : Nat) (Z0 : n0 ≤ h0.size) (F_ord : Fld Z h0 o0 "java/lang/Enum" "ordinal" "I" (.int (0 : Int32))) :
    MetFree l (⟨"java/lang/Enum", "ordinal", "()I"⟩ : MethodName) (head1 (Jvm.Cond.code (⟨"java/lang/Enum", "ordinal", "()I"⟩ : MethodName) jdk_37_method_2_code 1 (some .int) :: ws) ({ frames := 0, cells := 0, slots := 0, locals := 0 } : Room)) (fun a U => a = #[(.ref o0)] ∧ Z.Warmed39 U.vm ∧ U.heap = h0) (fun _ _ _ _ _ => True) (fun _ U o U' => ∃ v L, o = .returned v ∧ Q5S Z o0 h0 n0 v U'.heap L ∧ FrameEnd U o U' L ({ frames := 0, cells := 0, slots := 0, locals := 0 } : Room).cells ({ frames := 0, cells := 0, slots := 0, locals := 0 } : Room).slots) := by
  refine MetFree.of_bodySF (plainFor_of_name pn_5) hisR ?_
  intro p e s m args below meth c s₁ Bd hml0 hP hK
  obtain ⟨rfl, hZ, hh⟩ := hP
  have hx := Bd.exec
  have hby := Bd.bytes
  have hml : c.maxLocals = 1 := hml0
  have hown : s.vm.findClass "java/lang/Enum" = some m.cls := findClass_of_methodNamed Bd.named
  have hnm := (name_of_methodNamed Bd.named Bd.method).1
  have X0 : Stand p l e ({ frames := 0, cells := 0, slots := 0, locals := 0 } : Room) s m #[(.ref o0)] below meth c s₁ [] 0 0 := Stand.of_body Bd
  have e0 : s₁.heap = h0 := by rw [← hh, Bd.state]; rfl
  have N0 := Fr.nil n0
  show OGo p e below s (Q5S Z o0 h0 n0) ({ frames := 0, cells := 0, slots := 0, locals := 0 } : Room).cells ({ frames := 0, cells := 0, slots := 0, locals := 0 } : Room).slots _
  refine OGo.st (fun _ k => castTop (ef_5S m o0) k) ?_
  show OGo p e below s _ _ _ (s₁.setTop (mkF m 0 #[.val (.ref o0)] []))
  refine OGo.st (fun _ k => XS.aloadN X0.here hx rfl (hb hby d5_0) rfl rfl k) ?_
  show OGo p e below s _ _ _ (s₁.setTop (mkF m 1 #[.val (.ref o0)] [(.ref o0)]))
  obtain ⟨T1, X1, e1, st1⟩ := getF X0 hx hZ hown (host := "") (Or.inl (hw _ (List.mem_of_getElem? (i := 38) rfl))) Via.refl e0 F_ord (g := (mkF m 1 #[.val (.ref o0)] [(.ref o0)])) rfl rfl (hb hby d5_1)
  refine OGo.st st1 ?_
  show OGo p e below s _ _ _ (T1.setTop (mkF m 4 #[.val (.ref o0)] [(.int (0 : Int32))]))
  exact oretI X1 hx Bd.notSynchronized Bd.returns (hb hby d5_4) e1 ⟨(congrArg (fun z => some (Value.int z)) (show (0 : Int32) = f5S from Eq.symm (by unfold f5S; exact rfl))), N0, rfl⟩ (by decide) (by decide)
theorem d4_0 : decode prog_3_method_12_code 0 = .ok (.aload_n 0, 1) := by decide +kernel
theorem d4_1 : decode prog_3_method_12_code 1 = .ok (.invokevirtual 96, 3) := by decide +kernel
theorem d4_4 : decode prog_3_method_12_code 4 = .ok (.lookupswitch 28 #[(0, 38), (1, 42)], 28) := by decide +kernel
theorem d4_42 : decode prog_3_method_12_code 42 = .ok (.iload_n 1, 1) := by decide +kernel
theorem d4_43 : decode prog_3_method_12_code 43 = .ok (.goto 10, 3) := by decide +kernel
theorem d4_53 : decode prog_3_method_12_code 53 = .ok (.ireturn, 1) := by decide +kernel
theorem pn_4 : plainName "com/example/hazy_set/hazyset/BloomShape$Layout" = true := by first | (simp [plainName, overriddenIn]; done) | decide +kernel
theorem pd_4S_0 : parseMethodDescriptor "()I" = some ⟨[], some .int⟩ := by decide +kernel
theorem ef_4S (m : MethodId) (o0 : Addr) (p1 : Int32) : entryFrame m #[(.ref o0), (.int p1)] 2 = mkF m 0 #[.val (.ref o0), .val (.int p1)] [] := by first | (simp [entryFrame, mkF, argsToLocals, Value.category]; done) | rfl
def f4S (p1 : Int32) : Int32 := p1
def Q4S (Z : State) (o0 : Addr) (p1 : Int32) (h0 : Heap) (n0 : Nat) (v : Option Value) (h : Heap) (L : List Loc) : Prop := v = some (.int (f4S p1)) ∧ Fr n0 L ∧ h = h0
set_option maxRecDepth 65536 in
set_option maxHeartbeats 40000000 in
theorem rm4S (l : Launch) (Z : State) (a0 : Array Value) (hw : ∀ d ∈ tables_1, d.before a0 Z = true) (ws : List Jvm.Cond) (o0 : Addr) (p1 : Int32) (h0 : Heap) (n0 : Nat) (Z0 : n0 ≤ h0.size) (E_o0 : Exa Z h0 o0 "com/example/hazy_set/hazyset/BloomShape$Layout") (F_ord : Fld Z h0 o0 "java/lang/Enum" "ordinal" "I" (.int (0 : Int32))) :
    MetFree l (⟨"com/example/hazy_set/hazyset/BloomShape$Layout", "linesPerElement", "(I)I"⟩ : MethodName) (head1 (Jvm.Cond.code (⟨"com/example/hazy_set/hazyset/BloomShape$Layout", "linesPerElement", "(I)I"⟩ : MethodName) prog_3_method_12_code 2 (some .int) :: ws) ({ frames := 1, cells := 0, slots := 0, locals := 12 } : Room)) (fun a U => a = #[(.ref o0), (.int p1)] ∧ Z.Warmed39 U.vm ∧ U.heap = h0) (fun _ _ _ _ _ => True) (fun _ U o U' => ∃ v L, o = .returned v ∧ Q4S Z o0 p1 h0 n0 v U'.heap L ∧ FrameEnd U o U' L ({ frames := 1, cells := 0, slots := 0, locals := 12 } : Room).cells ({ frames := 1, cells := 0, slots := 0, locals := 12 } : Room).slots) := by
  refine MetFree.of_bodySF (plainFor_of_name pn_4) hisR ?_
  intro p e s m args below meth c s₁ Bd hml0 hP hK
  obtain ⟨rfl, hZ, hh⟩ := hP
  have hx := Bd.exec
  have hby := Bd.bytes
  have hml : c.maxLocals = 2 := hml0
  have hown : s.vm.findClass "com/example/hazy_set/hazyset/BloomShape$Layout" = some m.cls := findClass_of_methodNamed Bd.named
  have hnm := (name_of_methodNamed Bd.named Bd.method).1
  have X0 : Stand p l e ({ frames := 1, cells := 0, slots := 0, locals := 12 } : Room) s m #[(.ref o0), (.int p1)] below meth c s₁ [] 0 0 := Stand.of_body Bd
  have e0 : s₁.heap = h0 := by rw [← hh, Bd.state]; rfl
  have N0 := Fr.nil n0
  show OGo p e below s (Q4S Z o0 p1 h0 n0) ({ frames := 1, cells := 0, slots := 0, locals := 12 } : Room).cells ({ frames := 1, cells := 0, slots := 0, locals := 12 } : Room).slots _
  refine OGo.st (fun _ k => castTop (ef_4S m o0 p1) k) ?_
  show OGo p e below s _ _ _ (s₁.setTop (mkF m 0 #[.val (.ref o0), .val (.int p1)] []))
  refine OGo.st (fun _ k => XS.aloadN X0.here hx rfl (hb hby d4_0) rfl rfl k) ?_
  show OGo p e below s _ _ _ (s₁.setTop (mkF m 1 #[.val (.ref o0), .val (.int p1)] [(.ref o0)]))
  obtain ⟨cq1, kq1, q1a, q1b, q1c⟩ := isOf hZ e0 E_o0
  obtain ⟨_, _, ⟨T1, L1, k1, n1⟩, -, X1, ⟨Lc1, hQ1, l1, y1, z1⟩, st1⟩ := X0.virtualBackUp hx (x := (⟨"com/example/hazy_set/hazyset/BloomShape$Layout", "ordinal", "()I"⟩ : MethodName)) (y := (⟨"java/lang/Enum", "ordinal", "()I"⟩ : MethodName)) (owner := "java/lang/Enum") hown (mvT hZ (hw _ (List.mem_of_getElem? (i := 31) rfl))) (mvT hZ (hw _ (List.mem_of_getElem? (i := 32) rfl))) (mvT hZ (hw _ (List.mem_of_getElem? (i := 33) rfl))) (by decide) (mvT hZ (hw _ (List.mem_of_getElem? (i := 35) rfl))) (mvT hZ (hw _ (List.mem_of_getElem? (i := 34) rfl))) (backOf (W := 0) (rm5S l Z a0 hw [] o0 h0 n0 Z0 F_ord) hZ (hw _ (List.mem_of_getElem? (i := 37) rfl)) (hw _ (List.mem_of_getElem? (i := 36) rfl)) (by decide) (by decide)) q1a q1c (g := (mkF m 1 #[.val (.ref o0), .val (.int p1)] [(.ref o0)])) rfl (by rw [hml]; rfl) (Steps.refl _) (argsL := []) (rest := []) (lenOf pd_4S_0 rfl) rfl (by show 2 * 0 + _ ≤ _; exact Nat.le_of_eq rfl) (hb hby d4_1) (fun _ _ => ⟨rfl, e0, (by decide : 0 + 0 ≤ _), (by decide : 0 + 0 ≤ _)⟩)
  dsimp only [Pt.U, Pt.locs, Pt.cells, Pt.slots] at X1 l1 y1 z1 st1 hQ1
  subst l1 y1 z1
  obtain ⟨rfl, N1q, e1⟩ := hQ1
  have hl1 : (f5S) = (0 : Int32) := rfl
  have N1 := Fr.app N0 N1q
  refine OGo.st (fun _ k => st1.trans k) ?_
  show OGo p e below s _ _ _ (T1.setTop (mkF m 4 #[.val (.ref o0), .val (.int p1)] [(.int (0 : Int32))]))
  refine OGo.st (fun _ k => X1.lookupswitchHit hx (g := (mkF m 4 #[.val (.ref o0), .val (.int p1)] [(.int (0 : Int32))])) rfl rfl (hb hby d4_4) (by decide) (a := 0) (off := 38) rfl (by show (0 : Int) ≤ ((4 : Nat) : Int) + 38; decide) _ k) ?_
  show OGo p e below s _ _ _ (T1.setTop (mkF m 42 #[.val (.ref o0), .val (.int p1)] []))
  refine OGo.st (fun _ k => XS.iloadN X1.here hx rfl (hb hby d4_42) rfl k) ?_
  show OGo p e below s _ _ _ (T1.setTop (mkF m 43 #[.val (.ref o0), .val (.int p1)] [(.int p1)]))
  refine OGo.st (fun _ k => XS.goto X1.here hx rfl (pc0 := 43) (pc' := 53) rfl (hb hby d4_43) (by decide) (by decide) k) ?_
  show OGo p e below s _ _ _ (T1.setTop (mkF m 53 #[.val (.ref o0), .val (.int p1)] [(.int p1)]))
  exact oretI X1 hx Bd.notSynchronized Bd.returns (hb hby d4_53) e1 ⟨(congrArg (fun z => some (Value.int z)) (show p1 = f4S p1 from Eq.symm (by unfold f4S; exact rfl))), N1, rfl⟩ (by decide) (by decide)
theorem d2_0 : decode prog_2_method_1_code 0 = .ok (.aload_n 0, 1) := by decide +kernel
theorem d2_1 : decode prog_2_method_1_code 1 = .ok (.invokespecial 3, 3) := by decide +kernel
theorem d2_4 : decode prog_2_method_1_code 4 = .ok (.aload_n 0, 1) := by decide +kernel
theorem d2_5 : decode prog_2_method_1_code 5 = .ok (.lload_n 1, 1) := by decide +kernel
theorem d2_6 : decode prog_2_method_1_code 6 = .ok (.putfield 9, 3) := by decide +kernel
theorem d2_9 : decode prog_2_method_1_code 9 = .ok (.aload_n 0, 1) := by decide +kernel
theorem d2_10 : decode prog_2_method_1_code 10 = .ok (.iload_n 3, 1) := by decide +kernel
theorem d2_11 : decode prog_2_method_1_code 11 = .ok (.putfield 15, 3) := by decide +kernel
theorem d2_14 : decode prog_2_method_1_code 14 = .ok (.aload_n 0, 1) := by decide +kernel
theorem d2_15 : decode prog_2_method_1_code 15 = .ok (.aload 4, 2) := by decide +kernel
theorem d2_17 : decode prog_2_method_1_code 17 = .ok (.putfield 19, 3) := by decide +kernel
theorem d2_20 : decode prog_2_method_1_code 20 = .ok (.aload_n 0, 1) := by decide +kernel
theorem d2_21 : decode prog_2_method_1_code 21 = .ok (.lload_n 1, 1) := by decide +kernel
theorem d2_22 : decode prog_2_method_1_code 22 = .ok (.aload 4, 2) := by decide +kernel
theorem d2_24 : decode prog_2_method_1_code 24 = .ok (.getfield 23, 3) := by decide +kernel
theorem d2_27 : decode prog_2_method_1_code 27 = .ok (.lushr, 1) := by decide +kernel
theorem d2_28 : decode prog_2_method_1_code 28 = .ok (.putfield 28, 3) := by decide +kernel
theorem d2_31 : decode prog_2_method_1_code 31 = .ok (.aload_n 0, 1) := by decide +kernel
theorem d2_32 : decode prog_2_method_1_code 32 = .ok (.aload 4, 2) := by decide +kernel
theorem d2_34 : decode prog_2_method_1_code 34 = .ok (.iload_n 3, 1) := by decide +kernel
theorem d2_35 : decode prog_2_method_1_code 35 = .ok (.invokevirtual 31, 3) := by decide +kernel
theorem d2_38 : decode prog_2_method_1_code 38 = .ok (.putfield 35, 3) := by decide +kernel
theorem d2_41 : decode prog_2_method_1_code 41 = .ok (.aload_n 0, 1) := by decide +kernel
theorem d2_42 : decode prog_2_method_1_code 42 = .ok (.iload_n 3, 1) := by decide +kernel
theorem d2_43 : decode prog_2_method_1_code 43 = .ok (.aload_n 0, 1) := by decide +kernel
theorem d2_44 : decode prog_2_method_1_code 44 = .ok (.getfield 35, 3) := by decide +kernel
theorem d2_47 : decode prog_2_method_1_code 47 = .ok (.idiv, 1) := by decide +kernel
theorem d2_48 : decode prog_2_method_1_code 48 = .ok (.putfield 37, 3) := by decide +kernel
theorem d2_51 : decode prog_2_method_1_code 51 = .ok (.aload_n 0, 1) := by decide +kernel
theorem d2_52 : decode prog_2_method_1_code 52 = .ok (.iload_n 3, 1) := by decide +kernel
theorem d2_53 : decode prog_2_method_1_code 53 = .ok (.aload_n 0, 1) := by decide +kernel
theorem d2_54 : decode prog_2_method_1_code 54 = .ok (.getfield 35, 3) := by decide +kernel
theorem d2_57 : decode prog_2_method_1_code 57 = .ok (.irem, 1) := by decide +kernel
theorem d2_58 : decode prog_2_method_1_code 58 = .ok (.putfield 40, 3) := by decide +kernel
theorem d2_61 : decode prog_2_method_1_code 61 = .ok (.return_, 1) := by decide +kernel
theorem pn_2 : plainName "com/example/hazy_set/hazyset/BloomShape" = true := by first | (simp [plainName, overriddenIn]; done) | decide +kernel
theorem pd_2S_0 : parseMethodDescriptor "(I)I" = some ⟨[.int], some .int⟩ := by decide +kernel
theorem ef_2S (m : MethodId) (o0 : Addr) (q1 : Int64) (p2 : Int32) (o3 : Addr) : entryFrame m #[(.ref o0), (.long q1), (.int p2), (.ref o3)] 5 = mkF m 0 #[.val (.ref o0), .val (.long q1), .second, .val (.int p2), .val (.ref o3)] [] := by first | (simp [entryFrame, mkF, argsToLocals, Value.category]; done) | rfl
def Q2S (Z : State) (o0 : Addr) (q1 : Int64) (p2 : Int32) (o3 : Addr) (h0 : Heap) (n0 : Nat) (v : Option Value) (h : Heap) (L : List Loc) : Prop := v = none ∧ Fr n0 L ∧ Keep h0 h [o0] ∧ Fld Z h o0 "com/example/hazy_set/hazyset/BloomShape" "bitCount" "J" (.long q1) ∧ Fld Z h o0 "com/example/hazy_set/hazyset/BloomShape" "hashCount" "I" (.int p2) ∧ Fld Z h o0 "com/example/hazy_set/hazyset/BloomShape" "layout" "Lcom/example/hazy_set/hazyset/BloomShape$Layout;" (.ref o3)
set_option maxRecDepth 65536 in
set_option maxHeartbeats 40000000 in
theorem rm2S (l : Launch) (Z : State) (a0 : Array Value) (hw : ∀ d ∈ tables_1, d.before a0 Z = true) (ws : List Jvm.Cond) (o0 : Addr) (q1 : Int64) (p2 : Int32) (o3 : Addr) (h0 : Heap) (n0 : Nat) (Z0 : n0 ≤ h0.size) (E_o0 : Exa Z h0 o0 "com/example/hazy_set/hazyset/BloomShape") (F_bitCount : Fld Z h0 o0 "com/example/hazy_set/hazyset/BloomShape" "bitCount" "J" (.long (0 : Int64))) (F_hashCount : Fld Z h0 o0 "com/example/hazy_set/hazyset/BloomShape" "hashCount" "I" (.int (0 : Int32))) (F_layout : Fld Z h0 o0 "com/example/hazy_set/hazyset/BloomShape" "layout" "Lcom/example/hazy_set/hazyset/BloomShape$Layout;" .null) (F_lineCount : Fld Z h0 o0 "com/example/hazy_set/hazyset/BloomShape" "lineCount" "J" (.long (0 : Int64))) (F_linesPerElement : Fld Z h0 o0 "com/example/hazy_set/hazyset/BloomShape" "linesPerElement" "I" (.int (0 : Int32))) (F_bitsPerLine : Fld Z h0 o0 "com/example/hazy_set/hazyset/BloomShape" "bitsPerLine" "I" (.int (0 : Int32))) (F_longerLines : Fld Z h0 o0 "com/example/hazy_set/hazyset/BloomShape" "longerLines" "I" (.int (0 : Int32))) (E_o3 : Exa Z h0 o3 "com/example/hazy_set/hazyset/BloomShape$Layout") (F_shift : Fld Z h0 o3 "com/example/hazy_set/hazyset/BloomShape$Layout" "lineShift" "I" (.int (0 : Int32))) (F_ord : Fld Z h0 o3 "java/lang/Enum" "ordinal" "I" (.int (0 : Int32))) (g_o0 : n0 ≤ o0) (ne_o3_o0 : o3 ≠ o0) (hk : (0 : Int32) < p2) :
    MetFree l (⟨"com/example/hazy_set/hazyset/BloomShape", "<init>", "(JILcom/example/hazy_set/hazyset/BloomShape$Layout;)V"⟩ : MethodName) (head1 (Jvm.Cond.code (⟨"com/example/hazy_set/hazyset/BloomShape", "<init>", "(JILcom/example/hazy_set/hazyset/BloomShape$Layout;)V"⟩ : MethodName) prog_2_method_1_code 5 none :: ws) ({ frames := 2, cells := 0, slots := 0, locals := 26 } : Room)) (fun a U => a = #[(.ref o0), (.long q1), (.int p2), (.ref o3)] ∧ Z.Warmed39 U.vm ∧ U.heap = h0) (fun _ _ _ _ _ => True) (fun _ U o U' => ∃ v L, o = .returned v ∧ Q2S Z o0 q1 p2 o3 h0 n0 v U'.heap L ∧ FrameEnd U o U' L ({ frames := 2, cells := 0, slots := 0, locals := 26 } : Room).cells ({ frames := 2, cells := 0, slots := 0, locals := 26 } : Room).slots) := by
  refine MetFree.of_bodySF (plainFor_of_name pn_2) hisR ?_
  intro p e s m args below meth c s₁ Bd hml0 hP hK
  obtain ⟨rfl, hZ, hh⟩ := hP
  have hx := Bd.exec
  have hby := Bd.bytes
  have hml : c.maxLocals = 5 := hml0
  have hown : s.vm.findClass "com/example/hazy_set/hazyset/BloomShape" = some m.cls := findClass_of_methodNamed Bd.named
  have hnm := (name_of_methodNamed Bd.named Bd.method).1
  have X0 : Stand p l e ({ frames := 2, cells := 0, slots := 0, locals := 26 } : Room) s m #[(.ref o0), (.long q1), (.int p2), (.ref o3)] below meth c s₁ [] 0 0 := Stand.of_body Bd
  have e0 : s₁.heap = h0 := by rw [← hh, Bd.state]; rfl
  have N0 := Fr.nil n0
  show OGo p e below s (Q2S Z o0 q1 p2 o3 h0 n0) ({ frames := 2, cells := 0, slots := 0, locals := 26 } : Room).cells ({ frames := 2, cells := 0, slots := 0, locals := 26 } : Room).slots _
  refine OGo.st (fun _ k => castTop (ef_2S m o0 q1 p2 o3) k) ?_
  show OGo p e below s _ _ _ (s₁.setTop (mkF m 0 #[.val (.ref o0), .val (.long q1), .second, .val (.int p2), .val (.ref o3)] []))
  refine OGo.st (fun _ k => XS.aloadN X0.here hx rfl (hb hby d2_0) rfl rfl k) ?_
  show OGo p e below s _ _ _ (s₁.setTop (mkF m 1 #[.val (.ref o0), .val (.long q1), .second, .val (.int p2), .val (.ref o3)] [(.ref o0)]))
  obtain ⟨T1, X1, e1, st1⟩ := initO X0 hx hZ hown (hw _ (List.mem_of_getElem? (i := 14) rfl)) (hw _ (List.mem_of_getElem? (i := 15) rfl)) (hw _ (List.mem_of_getElem? (i := 16) rfl)) e0 (g := (mkF m 1 #[.val (.ref o0), .val (.long q1), .second, .val (.int p2), .val (.ref o3)] [(.ref o0)])) rfl (by rw [hml]; rfl) rfl (hb hby d2_1) (by decide) (W := 0) (by show 2 * 0 + _ ≤ _; exact Nat.le_of_eq rfl) (by decide)
  refine OGo.st st1 ?_
  show OGo p e below s _ _ _ (T1.setTop (mkF m 4 #[.val (.ref o0), .val (.long q1), .second, .val (.int p2), .val (.ref o3)] []))
  refine OGo.st (fun _ k => XS.aloadN X1.here hx rfl (hb hby d2_4) rfl rfl k) ?_
  show OGo p e below s _ _ _ (T1.setTop (mkF m 5 #[.val (.ref o0), .val (.long q1), .second, .val (.int p2), .val (.ref o3)] [(.ref o0)]))
  refine OGo.st (fun _ k => XS.lloadN X1.here hx rfl (hb hby d2_5) rfl k) ?_
  show OGo p e below s _ _ _ (T1.setTop (mkF m 6 #[.val (.ref o0), .val (.long q1), .second, .val (.int p2), .val (.ref o3)] [(.long q1), (.ref o0)]))
  obtain ⟨T2, h2, X2, e2, W2, st2⟩ := putF X1 hx hZ hown (host := "") (Or.inl (hw _ (List.mem_of_getElem? (i := 17) rfl))) Via.refl e1 F_bitCount E_o0 (Or.inr ⟨(hw _ (List.mem_of_getElem? (i := 18) rfl)), rfl, hnm⟩) (hw _ (List.mem_of_getElem? (i := 9) rfl)) (ty := .long) (by decide) rfl rfl (g := (mkF m 6 #[.val (.ref o0), .val (.long q1), .second, .val (.int p2), .val (.ref o3)] [(.long q1), (.ref o0)])) rfl rfl (hb hby d2_6)
  refine OGo.st st2 ?_
  have E_o0_w2 := E_o0.wr W2
  have F_hashCount_w2 := F_hashCount.other W2 (Or.inr (slot_ne (a0 := a0) (Or.inr (hw _ (List.mem_of_getElem? (i := 20) rfl))) (Or.inr (hw _ (List.mem_of_getElem? (i := 18) rfl))) (by decide) (t := .int) (t' := .long) (by decide) (by decide)))
  have F_layout_w2 := F_layout.other W2 (Or.inr (slot_ne (a0 := a0) (Or.inr (hw _ (List.mem_of_getElem? (i := 22) rfl))) (Or.inr (hw _ (List.mem_of_getElem? (i := 18) rfl))) (by decide) (t := (.object "com/example/hazy_set/hazyset/BloomShape$Layout")) (t' := .long) (by decide) (by decide)))
  have F_lineCount_w2 := F_lineCount.other W2 (Or.inr (slot_ne (a0 := a0) (Or.inr (hw _ (List.mem_of_getElem? (i := 26) rfl))) (Or.inr (hw _ (List.mem_of_getElem? (i := 18) rfl))) (by decide) (t := .long) (t' := .long) (by decide) (by decide)))
  have F_linesPerElement_w2 := F_linesPerElement.other W2 (Or.inr (slot_ne (a0 := a0) (Or.inr (hw _ (List.mem_of_getElem? (i := 41) rfl))) (Or.inr (hw _ (List.mem_of_getElem? (i := 18) rfl))) (by decide) (t := .int) (t' := .long) (by decide) (by decide)))
  have F_bitsPerLine_w2 := F_bitsPerLine.other W2 (Or.inr (slot_ne (a0 := a0) (Or.inr (hw _ (List.mem_of_getElem? (i := 43) rfl))) (Or.inr (hw _ (List.mem_of_getElem? (i := 18) rfl))) (by decide) (t := .int) (t' := .long) (by decide) (by decide)))
  have F_longerLines_w2 := F_longerLines.other W2 (Or.inr (slot_ne (a0 := a0) (Or.inr (hw _ (List.mem_of_getElem? (i := 45) rfl))) (Or.inr (hw _ (List.mem_of_getElem? (i := 18) rfl))) (by decide) (t := .int) (t' := .long) (by decide) (by decide)))
  have E_o3_w2 := E_o3.wr W2
  have F_shift_w2 := F_shift.other W2 (Or.inl ne_o3_o0)
  have F_ord_w2 := F_ord.other W2 (Or.inl ne_o3_o0)
  have K2 : Keep h0 h2 [o0] := (Keep.refl h0 _).wr W2 (Or.inl (List.mem_of_getElem? (i := 0) rfl))
  have N2 := Fr.snoc X2 N0 g_o0
  have Z2 : n0 ≤ h2.size := Nat.le_trans Z0 (Keep.of_wr W2).1
  have F2 : Fld Z h2 o0 "com/example/hazy_set/hazyset/BloomShape" "bitCount" "J" (.long q1) := F_bitCount.same W2
  show OGo p e below s _ _ _ (T2.setTop (mkF m 9 #[.val (.ref o0), .val (.long q1), .second, .val (.int p2), .val (.ref o3)] []))
  refine OGo.st (fun _ k => XS.aloadN X2.here hx rfl (hb hby d2_9) rfl rfl k) ?_
  show OGo p e below s _ _ _ (T2.setTop (mkF m 10 #[.val (.ref o0), .val (.long q1), .second, .val (.int p2), .val (.ref o3)] [(.ref o0)]))
  refine OGo.st (fun _ k => XS.iloadN X2.here hx rfl (hb hby d2_10) rfl k) ?_
  show OGo p e below s _ _ _ (T2.setTop (mkF m 11 #[.val (.ref o0), .val (.long q1), .second, .val (.int p2), .val (.ref o3)] [(.int p2), (.ref o0)]))
  obtain ⟨T3, h3, X3, e3, W3, st3⟩ := putF X2 hx hZ hown (host := "") (Or.inl (hw _ (List.mem_of_getElem? (i := 19) rfl))) Via.refl e2 F_hashCount_w2 E_o0_w2 (Or.inr ⟨(hw _ (List.mem_of_getElem? (i := 20) rfl)), rfl, hnm⟩) (hw _ (List.mem_of_getElem? (i := 9) rfl)) (ty := .int) (by decide) rfl rfl (g := (mkF m 11 #[.val (.ref o0), .val (.long q1), .second, .val (.int p2), .val (.ref o3)] [(.int p2), (.ref o0)])) rfl rfl (hb hby d2_11)
  refine OGo.st st3 ?_
  have E_o0_w3 := E_o0_w2.wr W3
  have F2_w3 := F2.other W3 (Or.inr (slot_ne (a0 := a0) (Or.inr (hw _ (List.mem_of_getElem? (i := 18) rfl))) (Or.inr (hw _ (List.mem_of_getElem? (i := 20) rfl))) (by decide) (t := .long) (t' := .int) (by decide) (by decide)))
  have F_layout_w3 := F_layout_w2.other W3 (Or.inr (slot_ne (a0 := a0) (Or.inr (hw _ (List.mem_of_getElem? (i := 22) rfl))) (Or.inr (hw _ (List.mem_of_getElem? (i := 20) rfl))) (by decide) (t := (.object "com/example/hazy_set/hazyset/BloomShape$Layout")) (t' := .int) (by decide) (by decide)))
  have F_lineCount_w3 := F_lineCount_w2.other W3 (Or.inr (slot_ne (a0 := a0) (Or.inr (hw _ (List.mem_of_getElem? (i := 26) rfl))) (Or.inr (hw _ (List.mem_of_getElem? (i := 20) rfl))) (by decide) (t := .long) (t' := .int) (by decide) (by decide)))
  have F_linesPerElement_w3 := F_linesPerElement_w2.other W3 (Or.inr (slot_ne (a0 := a0) (Or.inr (hw _ (List.mem_of_getElem? (i := 41) rfl))) (Or.inr (hw _ (List.mem_of_getElem? (i := 20) rfl))) (by decide) (t := .int) (t' := .int) (by decide) (by decide)))
  have F_bitsPerLine_w3 := F_bitsPerLine_w2.other W3 (Or.inr (slot_ne (a0 := a0) (Or.inr (hw _ (List.mem_of_getElem? (i := 43) rfl))) (Or.inr (hw _ (List.mem_of_getElem? (i := 20) rfl))) (by decide) (t := .int) (t' := .int) (by decide) (by decide)))
  have F_longerLines_w3 := F_longerLines_w2.other W3 (Or.inr (slot_ne (a0 := a0) (Or.inr (hw _ (List.mem_of_getElem? (i := 45) rfl))) (Or.inr (hw _ (List.mem_of_getElem? (i := 20) rfl))) (by decide) (t := .int) (t' := .int) (by decide) (by decide)))
  have E_o3_w3 := E_o3_w2.wr W3
  have F_shift_w3 := F_shift_w2.other W3 (Or.inl ne_o3_o0)
  have F_ord_w3 := F_ord_w2.other W3 (Or.inl ne_o3_o0)
  have K3 : Keep h0 h3 [o0] := (K2).wr W3 (Or.inl (List.mem_of_getElem? (i := 0) rfl))
  have N3 := Fr.snoc X3 N2 g_o0
  have Z3 : n0 ≤ h3.size := Nat.le_trans Z2 (Keep.of_wr W3).1
  have F3 : Fld Z h3 o0 "com/example/hazy_set/hazyset/BloomShape" "hashCount" "I" (.int p2) := F_hashCount_w2.same W3
  show OGo p e below s _ _ _ (T3.setTop (mkF m 14 #[.val (.ref o0), .val (.long q1), .second, .val (.int p2), .val (.ref o3)] []))
  refine OGo.st (fun _ k => XS.aloadN X3.here hx rfl (hb hby d2_14) rfl rfl k) ?_
  show OGo p e below s _ _ _ (T3.setTop (mkF m 15 #[.val (.ref o0), .val (.long q1), .second, .val (.int p2), .val (.ref o3)] [(.ref o0)]))
  refine OGo.st (fun _ k => XS.aload X3.here hx rfl (hb hby d2_15) rfl rfl k) ?_
  show OGo p e below s _ _ _ (T3.setTop (mkF m 17 #[.val (.ref o0), .val (.long q1), .second, .val (.int p2), .val (.ref o3)] [(.ref o3), (.ref o0)]))
  obtain ⟨T4, h4, X4, e4, W4, st4⟩ := putF X3 hx hZ hown (host := "") (Or.inl (hw _ (List.mem_of_getElem? (i := 21) rfl))) Via.refl e3 F_layout_w3 E_o0_w3 (Or.inr ⟨(hw _ (List.mem_of_getElem? (i := 22) rfl)), rfl, hnm⟩) (hw _ (List.mem_of_getElem? (i := 9) rfl)) (ty := (.object "com/example/hazy_set/hazyset/BloomShape$Layout")) (by decide) rfl rfl (g := (mkF m 17 #[.val (.ref o0), .val (.long q1), .second, .val (.int p2), .val (.ref o3)] [(.ref o3), (.ref o0)])) rfl rfl (hb hby d2_17)
  refine OGo.st st4 ?_
  have E_o0_w4 := E_o0_w3.wr W4
  have F2_w4 := F2_w3.other W4 (Or.inr (slot_ne (a0 := a0) (Or.inr (hw _ (List.mem_of_getElem? (i := 18) rfl))) (Or.inr (hw _ (List.mem_of_getElem? (i := 22) rfl))) (by decide) (t := .long) (t' := (.object "com/example/hazy_set/hazyset/BloomShape$Layout")) (by decide) (by decide)))
  have F3_w4 := F3.other W4 (Or.inr (slot_ne (a0 := a0) (Or.inr (hw _ (List.mem_of_getElem? (i := 20) rfl))) (Or.inr (hw _ (List.mem_of_getElem? (i := 22) rfl))) (by decide) (t := .int) (t' := (.object "com/example/hazy_set/hazyset/BloomShape$Layout")) (by decide) (by decide)))
  have F_lineCount_w4 := F_lineCount_w3.other W4 (Or.inr (slot_ne (a0 := a0) (Or.inr (hw _ (List.mem_of_getElem? (i := 26) rfl))) (Or.inr (hw _ (List.mem_of_getElem? (i := 22) rfl))) (by decide) (t := .long) (t' := (.object "com/example/hazy_set/hazyset/BloomShape$Layout")) (by decide) (by decide)))
  have F_linesPerElement_w4 := F_linesPerElement_w3.other W4 (Or.inr (slot_ne (a0 := a0) (Or.inr (hw _ (List.mem_of_getElem? (i := 41) rfl))) (Or.inr (hw _ (List.mem_of_getElem? (i := 22) rfl))) (by decide) (t := .int) (t' := (.object "com/example/hazy_set/hazyset/BloomShape$Layout")) (by decide) (by decide)))
  have F_bitsPerLine_w4 := F_bitsPerLine_w3.other W4 (Or.inr (slot_ne (a0 := a0) (Or.inr (hw _ (List.mem_of_getElem? (i := 43) rfl))) (Or.inr (hw _ (List.mem_of_getElem? (i := 22) rfl))) (by decide) (t := .int) (t' := (.object "com/example/hazy_set/hazyset/BloomShape$Layout")) (by decide) (by decide)))
  have F_longerLines_w4 := F_longerLines_w3.other W4 (Or.inr (slot_ne (a0 := a0) (Or.inr (hw _ (List.mem_of_getElem? (i := 45) rfl))) (Or.inr (hw _ (List.mem_of_getElem? (i := 22) rfl))) (by decide) (t := .int) (t' := (.object "com/example/hazy_set/hazyset/BloomShape$Layout")) (by decide) (by decide)))
  have E_o3_w4 := E_o3_w3.wr W4
  have F_shift_w4 := F_shift_w3.other W4 (Or.inl ne_o3_o0)
  have F_ord_w4 := F_ord_w3.other W4 (Or.inl ne_o3_o0)
  have K4 : Keep h0 h4 [o0] := (K3).wr W4 (Or.inl (List.mem_of_getElem? (i := 0) rfl))
  have N4 := Fr.snoc X4 N3 g_o0
  have Z4 : n0 ≤ h4.size := Nat.le_trans Z3 (Keep.of_wr W4).1
  have F4 : Fld Z h4 o0 "com/example/hazy_set/hazyset/BloomShape" "layout" "Lcom/example/hazy_set/hazyset/BloomShape$Layout;" (.ref o3) := F_layout_w3.same W4
  show OGo p e below s _ _ _ (T4.setTop (mkF m 20 #[.val (.ref o0), .val (.long q1), .second, .val (.int p2), .val (.ref o3)] []))
  refine OGo.st (fun _ k => XS.aloadN X4.here hx rfl (hb hby d2_20) rfl rfl k) ?_
  show OGo p e below s _ _ _ (T4.setTop (mkF m 21 #[.val (.ref o0), .val (.long q1), .second, .val (.int p2), .val (.ref o3)] [(.ref o0)]))
  refine OGo.st (fun _ k => XS.lloadN X4.here hx rfl (hb hby d2_21) rfl k) ?_
  show OGo p e below s _ _ _ (T4.setTop (mkF m 22 #[.val (.ref o0), .val (.long q1), .second, .val (.int p2), .val (.ref o3)] [(.long q1), (.ref o0)]))
  refine OGo.st (fun _ k => XS.aload X4.here hx rfl (hb hby d2_22) rfl rfl k) ?_
  show OGo p e below s _ _ _ (T4.setTop (mkF m 24 #[.val (.ref o0), .val (.long q1), .second, .val (.int p2), .val (.ref o3)] [(.ref o3), (.long q1), (.ref o0)]))
  refine OGo.st (fun _ k => ogetFR X4 hx hZ hown (hw _ (List.mem_of_getElem? (i := 23) rfl)) e4 F_shift_w4 (g := (mkF m 24 #[.val (.ref o0), .val (.long q1), .second, .val (.int p2), .val (.ref o3)] [(.ref o3), (.long q1), (.ref o0)])) rfl rfl (hb hby d2_24) k) ?_
  show OGo p e below s _ _ _ (T4.setTop (mkF m 27 #[.val (.ref o0), .val (.long q1), .second, .val (.int p2), .val (.ref o3)] [(.int (0 : Int32)), (.long q1), (.ref o0)]))
  refine OGo.st (fun _ k => XS.lushr X4.here hx rfl (hb hby d2_27) rfl k) ?_
  show OGo p e below s _ _ _ (T4.setTop (mkF m 28 #[.val (.ref o0), .val (.long q1), .second, .val (.int p2), .val (.ref o3)] [(.long ((q1.toUInt64 >>> ((0 : Int32) &&& 0x3f).toInt64.toUInt64).toInt64)), (.ref o0)]))
  obtain ⟨T5, h5, X5, e5, W5, st5⟩ := putF X4 hx hZ hown (host := "") (Or.inl (hw _ (List.mem_of_getElem? (i := 25) rfl))) Via.refl e4 F_lineCount_w4 E_o0_w4 (Or.inr ⟨(hw _ (List.mem_of_getElem? (i := 26) rfl)), rfl, hnm⟩) (hw _ (List.mem_of_getElem? (i := 9) rfl)) (ty := .long) (by decide) rfl rfl (g := (mkF m 28 #[.val (.ref o0), .val (.long q1), .second, .val (.int p2), .val (.ref o3)] [(.long ((q1.toUInt64 >>> ((0 : Int32) &&& 0x3f).toInt64.toUInt64).toInt64)), (.ref o0)])) rfl rfl (hb hby d2_28)
  refine OGo.st st5 ?_
  have E_o0_w5 := E_o0_w4.wr W5
  have F2_w5 := F2_w4.other W5 (Or.inr (slot_ne (a0 := a0) (Or.inr (hw _ (List.mem_of_getElem? (i := 18) rfl))) (Or.inr (hw _ (List.mem_of_getElem? (i := 26) rfl))) (by decide) (t := .long) (t' := .long) (by decide) (by decide)))
  have F3_w5 := F3_w4.other W5 (Or.inr (slot_ne (a0 := a0) (Or.inr (hw _ (List.mem_of_getElem? (i := 20) rfl))) (Or.inr (hw _ (List.mem_of_getElem? (i := 26) rfl))) (by decide) (t := .int) (t' := .long) (by decide) (by decide)))
  have F4_w5 := F4.other W5 (Or.inr (slot_ne (a0 := a0) (Or.inr (hw _ (List.mem_of_getElem? (i := 22) rfl))) (Or.inr (hw _ (List.mem_of_getElem? (i := 26) rfl))) (by decide) (t := (.object "com/example/hazy_set/hazyset/BloomShape$Layout")) (t' := .long) (by decide) (by decide)))
  have F_linesPerElement_w5 := F_linesPerElement_w4.other W5 (Or.inr (slot_ne (a0 := a0) (Or.inr (hw _ (List.mem_of_getElem? (i := 41) rfl))) (Or.inr (hw _ (List.mem_of_getElem? (i := 26) rfl))) (by decide) (t := .int) (t' := .long) (by decide) (by decide)))
  have F_bitsPerLine_w5 := F_bitsPerLine_w4.other W5 (Or.inr (slot_ne (a0 := a0) (Or.inr (hw _ (List.mem_of_getElem? (i := 43) rfl))) (Or.inr (hw _ (List.mem_of_getElem? (i := 26) rfl))) (by decide) (t := .int) (t' := .long) (by decide) (by decide)))
  have F_longerLines_w5 := F_longerLines_w4.other W5 (Or.inr (slot_ne (a0 := a0) (Or.inr (hw _ (List.mem_of_getElem? (i := 45) rfl))) (Or.inr (hw _ (List.mem_of_getElem? (i := 26) rfl))) (by decide) (t := .int) (t' := .long) (by decide) (by decide)))
  have E_o3_w5 := E_o3_w4.wr W5
  have F_shift_w5 := F_shift_w4.other W5 (Or.inl ne_o3_o0)
  have F_ord_w5 := F_ord_w4.other W5 (Or.inl ne_o3_o0)
  have K5 : Keep h0 h5 [o0] := (K4).wr W5 (Or.inl (List.mem_of_getElem? (i := 0) rfl))
  have N5 := Fr.snoc X5 N4 g_o0
  have Z5 : n0 ≤ h5.size := Nat.le_trans Z4 (Keep.of_wr W5).1
  have F5 : Fld Z h5 o0 "com/example/hazy_set/hazyset/BloomShape" "lineCount" "J" (.long ((q1.toUInt64 >>> ((0 : Int32) &&& 0x3f).toInt64.toUInt64).toInt64)) := F_lineCount_w4.same W5
  show OGo p e below s _ _ _ (T5.setTop (mkF m 31 #[.val (.ref o0), .val (.long q1), .second, .val (.int p2), .val (.ref o3)] []))
  refine OGo.st (fun _ k => XS.aloadN X5.here hx rfl (hb hby d2_31) rfl rfl k) ?_
  show OGo p e below s _ _ _ (T5.setTop (mkF m 32 #[.val (.ref o0), .val (.long q1), .second, .val (.int p2), .val (.ref o3)] [(.ref o0)]))
  refine OGo.st (fun _ k => XS.aload X5.here hx rfl (hb hby d2_32) rfl rfl k) ?_
  show OGo p e below s _ _ _ (T5.setTop (mkF m 34 #[.val (.ref o0), .val (.long q1), .second, .val (.int p2), .val (.ref o3)] [(.ref o3), (.ref o0)]))
  refine OGo.st (fun _ k => XS.iloadN X5.here hx rfl (hb hby d2_34) rfl k) ?_
  show OGo p e below s _ _ _ (T5.setTop (mkF m 35 #[.val (.ref o0), .val (.long q1), .second, .val (.int p2), .val (.ref o3)] [(.int p2), (.ref o3), (.ref o0)]))
  obtain ⟨_, _, ⟨T6, L6, k6, n6⟩, -, X6, ⟨Lc6, hQ6, l6, y6, z6⟩, st6⟩ := oprivR X5 hx hZ (y := (⟨"com/example/hazy_set/hazyset/BloomShape$Layout", "linesPerElement", "(I)I"⟩ : MethodName)) hown (hw _ (List.mem_of_getElem? (i := 27) rfl)) (hw _ (List.mem_of_getElem? (i := 28) rfl)) (hw _ (List.mem_of_getElem? (i := 29) rfl)) (hw _ (List.mem_of_getElem? (i := 30) rfl)) (hw _ (List.mem_of_getElem? (i := 32) rfl)) (by decide) (backOf (W := 1) (rm4S l Z a0 hw [] o3 p2 h5 n0 Z5 E_o3_w5 F_ord_w5) hZ (hw _ (List.mem_of_getElem? (i := 30) rfl)) (hw _ (List.mem_of_getElem? (i := 6) rfl)) (by decide) (by decide)) e5 E_o3_w5 (g := (mkF m 35 #[.val (.ref o0), .val (.long q1), .second, .val (.int p2), .val (.ref o3)] [(.int p2), (.ref o3), (.ref o0)])) rfl (by rw [hml]; rfl) (argsL := [(.int p2)]) (rest := [(.ref o0)]) (lenOf pd_2S_0 rfl) rfl (by show 2 * 0 + _ ≤ _; exact Nat.le_of_eq rfl) (hb hby d2_35) (fun _ _ => ⟨rfl, e5, (by decide : 0 + 0 ≤ _), (by decide : 0 + 0 ≤ _)⟩)
  dsimp only [Pt.U, Pt.locs, Pt.cells, Pt.slots] at X6 l6 y6 z6 st6 hQ6
  subst l6 y6 z6
  obtain ⟨rfl, N6q, e6⟩ := hQ6
  have N6 := Fr.app N5 N6q
  refine OGo.st (fun _ k => st6.trans k) ?_
  show OGo p e below s _ _ _ (T6.setTop (mkF m 38 #[.val (.ref o0), .val (.long q1), .second, .val (.int p2), .val (.ref o3)] [(.int (f4S p2)), (.ref o0)]))
  obtain ⟨T7, h7, X7, e7, W7, st7⟩ := putF X6 hx hZ hown (host := "") (Or.inl (hw _ (List.mem_of_getElem? (i := 40) rfl))) Via.refl e6 F_linesPerElement_w5 E_o0_w5 (Or.inr ⟨(hw _ (List.mem_of_getElem? (i := 41) rfl)), rfl, hnm⟩) (hw _ (List.mem_of_getElem? (i := 9) rfl)) (ty := .int) (by decide) rfl rfl (g := (mkF m 38 #[.val (.ref o0), .val (.long q1), .second, .val (.int p2), .val (.ref o3)] [(.int (f4S p2)), (.ref o0)])) rfl rfl (hb hby d2_38)
  refine OGo.st st7 ?_
  have E_o0_w7 := E_o0_w5.wr W7
  have F2_w7 := F2_w5.other W7 (Or.inr (slot_ne (a0 := a0) (Or.inr (hw _ (List.mem_of_getElem? (i := 18) rfl))) (Or.inr (hw _ (List.mem_of_getElem? (i := 41) rfl))) (by decide) (t := .long) (t' := .int) (by decide) (by decide)))
  have F3_w7 := F3_w5.other W7 (Or.inr (slot_ne (a0 := a0) (Or.inr (hw _ (List.mem_of_getElem? (i := 20) rfl))) (Or.inr (hw _ (List.mem_of_getElem? (i := 41) rfl))) (by decide) (t := .int) (t' := .int) (by decide) (by decide)))
  have F4_w7 := F4_w5.other W7 (Or.inr (slot_ne (a0 := a0) (Or.inr (hw _ (List.mem_of_getElem? (i := 22) rfl))) (Or.inr (hw _ (List.mem_of_getElem? (i := 41) rfl))) (by decide) (t := (.object "com/example/hazy_set/hazyset/BloomShape$Layout")) (t' := .int) (by decide) (by decide)))
  have F5_w7 := F5.other W7 (Or.inr (slot_ne (a0 := a0) (Or.inr (hw _ (List.mem_of_getElem? (i := 26) rfl))) (Or.inr (hw _ (List.mem_of_getElem? (i := 41) rfl))) (by decide) (t := .long) (t' := .int) (by decide) (by decide)))
  have F_bitsPerLine_w7 := F_bitsPerLine_w5.other W7 (Or.inr (slot_ne (a0 := a0) (Or.inr (hw _ (List.mem_of_getElem? (i := 43) rfl))) (Or.inr (hw _ (List.mem_of_getElem? (i := 41) rfl))) (by decide) (t := .int) (t' := .int) (by decide) (by decide)))
  have F_longerLines_w7 := F_longerLines_w5.other W7 (Or.inr (slot_ne (a0 := a0) (Or.inr (hw _ (List.mem_of_getElem? (i := 45) rfl))) (Or.inr (hw _ (List.mem_of_getElem? (i := 41) rfl))) (by decide) (t := .int) (t' := .int) (by decide) (by decide)))
  have E_o3_w7 := E_o3_w5.wr W7
  have F_shift_w7 := F_shift_w5.other W7 (Or.inl ne_o3_o0)
  have F_ord_w7 := F_ord_w5.other W7 (Or.inl ne_o3_o0)
  have K7 : Keep h0 h7 [o0] := (K5).wr W7 (Or.inl (List.mem_of_getElem? (i := 0) rfl))
  have N7 := Fr.snoc X7 N6 g_o0
  have Z7 : n0 ≤ h7.size := Nat.le_trans Z5 (Keep.of_wr W7).1
  have F7 : Fld Z h7 o0 "com/example/hazy_set/hazyset/BloomShape" "linesPerElement" "I" (.int (f4S p2)) := F_linesPerElement_w5.same W7
  show OGo p e below s _ _ _ (T7.setTop (mkF m 41 #[.val (.ref o0), .val (.long q1), .second, .val (.int p2), .val (.ref o3)] []))
  refine OGo.st (fun _ k => XS.aloadN X7.here hx rfl (hb hby d2_41) rfl rfl k) ?_
  show OGo p e below s _ _ _ (T7.setTop (mkF m 42 #[.val (.ref o0), .val (.long q1), .second, .val (.int p2), .val (.ref o3)] [(.ref o0)]))
  refine OGo.st (fun _ k => XS.iloadN X7.here hx rfl (hb hby d2_42) rfl k) ?_
  show OGo p e below s _ _ _ (T7.setTop (mkF m 43 #[.val (.ref o0), .val (.long q1), .second, .val (.int p2), .val (.ref o3)] [(.int p2), (.ref o0)]))
  refine OGo.st (fun _ k => XS.aloadN X7.here hx rfl (hb hby d2_43) rfl rfl k) ?_
  show OGo p e below s _ _ _ (T7.setTop (mkF m 44 #[.val (.ref o0), .val (.long q1), .second, .val (.int p2), .val (.ref o3)] [(.ref o0), (.int p2), (.ref o0)]))
  obtain ⟨T8, X8, e8, st8⟩ := getF X7 hx hZ hown (host := "") (Or.inl (hw _ (List.mem_of_getElem? (i := 40) rfl))) Via.refl e7 F7 (g := (mkF m 44 #[.val (.ref o0), .val (.long q1), .second, .val (.int p2), .val (.ref o3)] [(.ref o0), (.int p2), (.ref o0)])) rfl rfl (hb hby d2_44)
  refine OGo.st st8 ?_
  show OGo p e below s _ _ _ (T8.setTop (mkF m 47 #[.val (.ref o0), .val (.long q1), .second, .val (.int p2), .val (.ref o3)] [(.int (f4S p2)), (.int p2), (.ref o0)]))
  refine OGo.st (fun _ k => XS.idiv X8.here hx rfl (hb hby d2_47) rfl (own_nzS hk) k) ?_
  show OGo p e below s _ _ _ (T8.setTop (mkF m 48 #[.val (.ref o0), .val (.long q1), .second, .val (.int p2), .val (.ref o3)] [(.int (p2 / (f4S p2))), (.ref o0)]))
  obtain ⟨T9, h9, X9, e9, W9, st9⟩ := putF X8 hx hZ hown (host := "") (Or.inl (hw _ (List.mem_of_getElem? (i := 42) rfl))) Via.refl e8 F_bitsPerLine_w7 E_o0_w7 (Or.inr ⟨(hw _ (List.mem_of_getElem? (i := 43) rfl)), rfl, hnm⟩) (hw _ (List.mem_of_getElem? (i := 9) rfl)) (ty := .int) (by decide) rfl rfl (g := (mkF m 48 #[.val (.ref o0), .val (.long q1), .second, .val (.int p2), .val (.ref o3)] [(.int (p2 / (f4S p2))), (.ref o0)])) rfl rfl (hb hby d2_48)
  refine OGo.st st9 ?_
  have E_o0_w9 := E_o0_w7.wr W9
  have F2_w9 := F2_w7.other W9 (Or.inr (slot_ne (a0 := a0) (Or.inr (hw _ (List.mem_of_getElem? (i := 18) rfl))) (Or.inr (hw _ (List.mem_of_getElem? (i := 43) rfl))) (by decide) (t := .long) (t' := .int) (by decide) (by decide)))
  have F3_w9 := F3_w7.other W9 (Or.inr (slot_ne (a0 := a0) (Or.inr (hw _ (List.mem_of_getElem? (i := 20) rfl))) (Or.inr (hw _ (List.mem_of_getElem? (i := 43) rfl))) (by decide) (t := .int) (t' := .int) (by decide) (by decide)))
  have F4_w9 := F4_w7.other W9 (Or.inr (slot_ne (a0 := a0) (Or.inr (hw _ (List.mem_of_getElem? (i := 22) rfl))) (Or.inr (hw _ (List.mem_of_getElem? (i := 43) rfl))) (by decide) (t := (.object "com/example/hazy_set/hazyset/BloomShape$Layout")) (t' := .int) (by decide) (by decide)))
  have F5_w9 := F5_w7.other W9 (Or.inr (slot_ne (a0 := a0) (Or.inr (hw _ (List.mem_of_getElem? (i := 26) rfl))) (Or.inr (hw _ (List.mem_of_getElem? (i := 43) rfl))) (by decide) (t := .long) (t' := .int) (by decide) (by decide)))
  have F7_w9 := F7.other W9 (Or.inr (slot_ne (a0 := a0) (Or.inr (hw _ (List.mem_of_getElem? (i := 41) rfl))) (Or.inr (hw _ (List.mem_of_getElem? (i := 43) rfl))) (by decide) (t := .int) (t' := .int) (by decide) (by decide)))
  have F_longerLines_w9 := F_longerLines_w7.other W9 (Or.inr (slot_ne (a0 := a0) (Or.inr (hw _ (List.mem_of_getElem? (i := 45) rfl))) (Or.inr (hw _ (List.mem_of_getElem? (i := 43) rfl))) (by decide) (t := .int) (t' := .int) (by decide) (by decide)))
  have E_o3_w9 := E_o3_w7.wr W9
  have F_shift_w9 := F_shift_w7.other W9 (Or.inl ne_o3_o0)
  have F_ord_w9 := F_ord_w7.other W9 (Or.inl ne_o3_o0)
  have K9 : Keep h0 h9 [o0] := (K7).wr W9 (Or.inl (List.mem_of_getElem? (i := 0) rfl))
  have N9 := Fr.snoc X9 N7 g_o0
  have Z9 : n0 ≤ h9.size := Nat.le_trans Z7 (Keep.of_wr W9).1
  have F9 : Fld Z h9 o0 "com/example/hazy_set/hazyset/BloomShape" "bitsPerLine" "I" (.int (p2 / (f4S p2))) := F_bitsPerLine_w7.same W9
  show OGo p e below s _ _ _ (T9.setTop (mkF m 51 #[.val (.ref o0), .val (.long q1), .second, .val (.int p2), .val (.ref o3)] []))
  refine OGo.st (fun _ k => XS.aloadN X9.here hx rfl (hb hby d2_51) rfl rfl k) ?_
  show OGo p e below s _ _ _ (T9.setTop (mkF m 52 #[.val (.ref o0), .val (.long q1), .second, .val (.int p2), .val (.ref o3)] [(.ref o0)]))
  refine OGo.st (fun _ k => XS.iloadN X9.here hx rfl (hb hby d2_52) rfl k) ?_
  show OGo p e below s _ _ _ (T9.setTop (mkF m 53 #[.val (.ref o0), .val (.long q1), .second, .val (.int p2), .val (.ref o3)] [(.int p2), (.ref o0)]))
  refine OGo.st (fun _ k => XS.aloadN X9.here hx rfl (hb hby d2_53) rfl rfl k) ?_
  show OGo p e below s _ _ _ (T9.setTop (mkF m 54 #[.val (.ref o0), .val (.long q1), .second, .val (.int p2), .val (.ref o3)] [(.ref o0), (.int p2), (.ref o0)]))
  obtain ⟨T10, X10, e10, st10⟩ := getF X9 hx hZ hown (host := "") (Or.inl (hw _ (List.mem_of_getElem? (i := 40) rfl))) Via.refl e9 F7_w9 (g := (mkF m 54 #[.val (.ref o0), .val (.long q1), .second, .val (.int p2), .val (.ref o3)] [(.ref o0), (.int p2), (.ref o0)])) rfl rfl (hb hby d2_54)
  refine OGo.st st10 ?_
  show OGo p e below s _ _ _ (T10.setTop (mkF m 57 #[.val (.ref o0), .val (.long q1), .second, .val (.int p2), .val (.ref o3)] [(.int (f4S p2)), (.int p2), (.ref o0)]))
  refine OGo.st (fun _ k => iremM X10 hx rfl (hb hby d2_57) rfl (own_nzS hk) k) ?_
  show OGo p e below s _ _ _ (T10.setTop (mkF m 58 #[.val (.ref o0), .val (.long q1), .second, .val (.int p2), .val (.ref o3)] [(.int (p2 % (f4S p2))), (.ref o0)]))
  obtain ⟨T11, h11, X11, e11, W11, st11⟩ := putF X10 hx hZ hown (host := "") (Or.inl (hw _ (List.mem_of_getElem? (i := 44) rfl))) Via.refl e10 F_longerLines_w9 E_o0_w9 (Or.inr ⟨(hw _ (List.mem_of_getElem? (i := 45) rfl)), rfl, hnm⟩) (hw _ (List.mem_of_getElem? (i := 9) rfl)) (ty := .int) (by decide) rfl rfl (g := (mkF m 58 #[.val (.ref o0), .val (.long q1), .second, .val (.int p2), .val (.ref o3)] [(.int (p2 % (f4S p2))), (.ref o0)])) rfl rfl (hb hby d2_58)
  refine OGo.st st11 ?_
  have E_o0_w11 := E_o0_w9.wr W11
  have F2_w11 := F2_w9.other W11 (Or.inr (slot_ne (a0 := a0) (Or.inr (hw _ (List.mem_of_getElem? (i := 18) rfl))) (Or.inr (hw _ (List.mem_of_getElem? (i := 45) rfl))) (by decide) (t := .long) (t' := .int) (by decide) (by decide)))
  have F3_w11 := F3_w9.other W11 (Or.inr (slot_ne (a0 := a0) (Or.inr (hw _ (List.mem_of_getElem? (i := 20) rfl))) (Or.inr (hw _ (List.mem_of_getElem? (i := 45) rfl))) (by decide) (t := .int) (t' := .int) (by decide) (by decide)))
  have F4_w11 := F4_w9.other W11 (Or.inr (slot_ne (a0 := a0) (Or.inr (hw _ (List.mem_of_getElem? (i := 22) rfl))) (Or.inr (hw _ (List.mem_of_getElem? (i := 45) rfl))) (by decide) (t := (.object "com/example/hazy_set/hazyset/BloomShape$Layout")) (t' := .int) (by decide) (by decide)))
  have F5_w11 := F5_w9.other W11 (Or.inr (slot_ne (a0 := a0) (Or.inr (hw _ (List.mem_of_getElem? (i := 26) rfl))) (Or.inr (hw _ (List.mem_of_getElem? (i := 45) rfl))) (by decide) (t := .long) (t' := .int) (by decide) (by decide)))
  have F7_w11 := F7_w9.other W11 (Or.inr (slot_ne (a0 := a0) (Or.inr (hw _ (List.mem_of_getElem? (i := 41) rfl))) (Or.inr (hw _ (List.mem_of_getElem? (i := 45) rfl))) (by decide) (t := .int) (t' := .int) (by decide) (by decide)))
  have F9_w11 := F9.other W11 (Or.inr (slot_ne (a0 := a0) (Or.inr (hw _ (List.mem_of_getElem? (i := 43) rfl))) (Or.inr (hw _ (List.mem_of_getElem? (i := 45) rfl))) (by decide) (t := .int) (t' := .int) (by decide) (by decide)))
  have E_o3_w11 := E_o3_w9.wr W11
  have F_shift_w11 := F_shift_w9.other W11 (Or.inl ne_o3_o0)
  have F_ord_w11 := F_ord_w9.other W11 (Or.inl ne_o3_o0)
  have K11 : Keep h0 h11 [o0] := (K9).wr W11 (Or.inl (List.mem_of_getElem? (i := 0) rfl))
  have N11 := Fr.snoc X11 N9 g_o0
  have Z11 : n0 ≤ h11.size := Nat.le_trans Z9 (Keep.of_wr W11).1
  have F11 : Fld Z h11 o0 "com/example/hazy_set/hazyset/BloomShape" "longerLines" "I" (.int (p2 % (f4S p2))) := F_longerLines_w9.same W11
  show OGo p e below s _ _ _ (T11.setTop (mkF m 61 #[.val (.ref o0), .val (.long q1), .second, .val (.int p2), .val (.ref o3)] []))
  exact oret0 X11 hx Bd.notSynchronized Bd.returns (hb hby d2_61) e11 ⟨rfl, N11, K11, F2_w11, F3_w11, F4_w11⟩ (by decide) (by decide)
theorem ef_5L (m : MethodId) (o0 : Addr) : entryFrame m #[(.ref o0)] 1 = mkF m 0 #[.val (.ref o0)] [] := by first | (simp [entryFrame, mkF, argsToLocals, Value.category]; done) | rfl
def f5L : Int32 := (1 : Int32)
def Q5L (Z : State) (o0 : Addr) (h0 : Heap) (n0 : Nat) (v : Option Value) (h : Heap) (L : List Loc) : Prop := v = some (.int (f5L)) ∧ Fr n0 L ∧ h = h0
set_option maxRecDepth 65536 in
set_option maxHeartbeats 40000000 in
theorem rm5L (l : Launch) (Z : State) (a0 : Array Value) (hw : ∀ d ∈ tables_1, d.before a0 Z = true) (ws : List Jvm.Cond) (o0 : Addr) (h0 : Heap) (n0 : Nat) (Z0 : n0 ≤ h0.size) (F_ord : Fld Z h0 o0 "java/lang/Enum" "ordinal" "I" (.int (1 : Int32))) :
    MetFree l (⟨"java/lang/Enum", "ordinal", "()I"⟩ : MethodName) (head1 (Jvm.Cond.code (⟨"java/lang/Enum", "ordinal", "()I"⟩ : MethodName) jdk_37_method_2_code 1 (some .int) :: ws) ({ frames := 0, cells := 0, slots := 0, locals := 0 } : Room)) (fun a U => a = #[(.ref o0)] ∧ Z.Warmed39 U.vm ∧ U.heap = h0) (fun _ _ _ _ _ => True) (fun _ U o U' => ∃ v L, o = .returned v ∧ Q5L Z o0 h0 n0 v U'.heap L ∧ FrameEnd U o U' L ({ frames := 0, cells := 0, slots := 0, locals := 0 } : Room).cells ({ frames := 0, cells := 0, slots := 0, locals := 0 } : Room).slots) := by
  refine MetFree.of_bodySF (plainFor_of_name pn_5) hisR ?_
  intro p e s m args below meth c s₁ Bd hml0 hP hK
  obtain ⟨rfl, hZ, hh⟩ := hP
  have hx := Bd.exec
  have hby := Bd.bytes
  have hml : c.maxLocals = 1 := hml0
  have hown : s.vm.findClass "java/lang/Enum" = some m.cls := findClass_of_methodNamed Bd.named
  have hnm := (name_of_methodNamed Bd.named Bd.method).1
  have X0 : Stand p l e ({ frames := 0, cells := 0, slots := 0, locals := 0 } : Room) s m #[(.ref o0)] below meth c s₁ [] 0 0 := Stand.of_body Bd
  have e0 : s₁.heap = h0 := by rw [← hh, Bd.state]; rfl
  have N0 := Fr.nil n0
  show OGo p e below s (Q5L Z o0 h0 n0) ({ frames := 0, cells := 0, slots := 0, locals := 0 } : Room).cells ({ frames := 0, cells := 0, slots := 0, locals := 0 } : Room).slots _
  refine OGo.st (fun _ k => castTop (ef_5L m o0) k) ?_
  show OGo p e below s _ _ _ (s₁.setTop (mkF m 0 #[.val (.ref o0)] []))
  refine OGo.st (fun _ k => XS.aloadN X0.here hx rfl (hb hby d5_0) rfl rfl k) ?_
  show OGo p e below s _ _ _ (s₁.setTop (mkF m 1 #[.val (.ref o0)] [(.ref o0)]))
  obtain ⟨T1, X1, e1, st1⟩ := getF X0 hx hZ hown (host := "") (Or.inl (hw _ (List.mem_of_getElem? (i := 38) rfl))) Via.refl e0 F_ord (g := (mkF m 1 #[.val (.ref o0)] [(.ref o0)])) rfl rfl (hb hby d5_1)
  refine OGo.st st1 ?_
  show OGo p e below s _ _ _ (T1.setTop (mkF m 4 #[.val (.ref o0)] [(.int (1 : Int32))]))
  exact oretI X1 hx Bd.notSynchronized Bd.returns (hb hby d5_4) e1 ⟨(congrArg (fun z => some (Value.int z)) (show (1 : Int32) = f5L from Eq.symm (by unfold f5L; exact rfl))), N0, rfl⟩ (by decide) (by decide)
theorem d4_46 : decode prog_3_method_12_code 46 = .ok (.iload_n 1, 1) := by decide +kernel
theorem d4_47 : decode prog_3_method_12_code 47 = .ok (.iconst 4, 1) := by decide +kernel
theorem d4_48 : decode prog_3_method_12_code 48 = .ok (.iadd, 1) := by decide +kernel
theorem d4_49 : decode prog_3_method_12_code 49 = .ok (.iconst 1, 1) := by decide +kernel
theorem d4_50 : decode prog_3_method_12_code 50 = .ok (.isub, 1) := by decide +kernel
theorem d4_51 : decode prog_3_method_12_code 51 = .ok (.iconst 4, 1) := by decide +kernel
theorem d4_52 : decode prog_3_method_12_code 52 = .ok (.idiv, 1) := by decide +kernel
theorem pd_4L_0 : parseMethodDescriptor "()I" = some ⟨[], some .int⟩ := by decide +kernel
theorem ef_4L (m : MethodId) (o0 : Addr) (p1 : Int32) : entryFrame m #[(.ref o0), (.int p1)] 2 = mkF m 0 #[.val (.ref o0), .val (.int p1)] [] := by first | (simp [entryFrame, mkF, argsToLocals, Value.category]; done) | rfl
def f4L (p1 : Int32) : Int32 := (((p1 + (4 : Int32)) - (1 : Int32)) / (4 : Int32))
def Q4L (Z : State) (o0 : Addr) (p1 : Int32) (h0 : Heap) (n0 : Nat) (v : Option Value) (h : Heap) (L : List Loc) : Prop := v = some (.int (f4L p1)) ∧ Fr n0 L ∧ h = h0
set_option maxRecDepth 65536 in
set_option maxHeartbeats 40000000 in
theorem rm4L (l : Launch) (Z : State) (a0 : Array Value) (hw : ∀ d ∈ tables_1, d.before a0 Z = true) (ws : List Jvm.Cond) (o0 : Addr) (p1 : Int32) (h0 : Heap) (n0 : Nat) (Z0 : n0 ≤ h0.size) (E_o0 : Exa Z h0 o0 "com/example/hazy_set/hazyset/BloomShape$Layout") (F_ord : Fld Z h0 o0 "java/lang/Enum" "ordinal" "I" (.int (1 : Int32))) :
    MetFree l (⟨"com/example/hazy_set/hazyset/BloomShape$Layout", "linesPerElement", "(I)I"⟩ : MethodName) (head1 (Jvm.Cond.code (⟨"com/example/hazy_set/hazyset/BloomShape$Layout", "linesPerElement", "(I)I"⟩ : MethodName) prog_3_method_12_code 2 (some .int) :: ws) ({ frames := 1, cells := 0, slots := 0, locals := 12 } : Room)) (fun a U => a = #[(.ref o0), (.int p1)] ∧ Z.Warmed39 U.vm ∧ U.heap = h0) (fun _ _ _ _ _ => True) (fun _ U o U' => ∃ v L, o = .returned v ∧ Q4L Z o0 p1 h0 n0 v U'.heap L ∧ FrameEnd U o U' L ({ frames := 1, cells := 0, slots := 0, locals := 12 } : Room).cells ({ frames := 1, cells := 0, slots := 0, locals := 12 } : Room).slots) := by
  refine MetFree.of_bodySF (plainFor_of_name pn_4) hisR ?_
  intro p e s m args below meth c s₁ Bd hml0 hP hK
  obtain ⟨rfl, hZ, hh⟩ := hP
  have hx := Bd.exec
  have hby := Bd.bytes
  have hml : c.maxLocals = 2 := hml0
  have hown : s.vm.findClass "com/example/hazy_set/hazyset/BloomShape$Layout" = some m.cls := findClass_of_methodNamed Bd.named
  have hnm := (name_of_methodNamed Bd.named Bd.method).1
  have X0 : Stand p l e ({ frames := 1, cells := 0, slots := 0, locals := 12 } : Room) s m #[(.ref o0), (.int p1)] below meth c s₁ [] 0 0 := Stand.of_body Bd
  have e0 : s₁.heap = h0 := by rw [← hh, Bd.state]; rfl
  have N0 := Fr.nil n0
  show OGo p e below s (Q4L Z o0 p1 h0 n0) ({ frames := 1, cells := 0, slots := 0, locals := 12 } : Room).cells ({ frames := 1, cells := 0, slots := 0, locals := 12 } : Room).slots _
  refine OGo.st (fun _ k => castTop (ef_4L m o0 p1) k) ?_
  show OGo p e below s _ _ _ (s₁.setTop (mkF m 0 #[.val (.ref o0), .val (.int p1)] []))
  refine OGo.st (fun _ k => XS.aloadN X0.here hx rfl (hb hby d4_0) rfl rfl k) ?_
  show OGo p e below s _ _ _ (s₁.setTop (mkF m 1 #[.val (.ref o0), .val (.int p1)] [(.ref o0)]))
  obtain ⟨cq1, kq1, q1a, q1b, q1c⟩ := isOf hZ e0 E_o0
  obtain ⟨_, _, ⟨T1, L1, k1, n1⟩, -, X1, ⟨Lc1, hQ1, l1, y1, z1⟩, st1⟩ := X0.virtualBackUp hx (x := (⟨"com/example/hazy_set/hazyset/BloomShape$Layout", "ordinal", "()I"⟩ : MethodName)) (y := (⟨"java/lang/Enum", "ordinal", "()I"⟩ : MethodName)) (owner := "java/lang/Enum") hown (mvT hZ (hw _ (List.mem_of_getElem? (i := 31) rfl))) (mvT hZ (hw _ (List.mem_of_getElem? (i := 32) rfl))) (mvT hZ (hw _ (List.mem_of_getElem? (i := 33) rfl))) (by decide) (mvT hZ (hw _ (List.mem_of_getElem? (i := 35) rfl))) (mvT hZ (hw _ (List.mem_of_getElem? (i := 34) rfl))) (backOf (W := 0) (rm5L l Z a0 hw [] o0 h0 n0 Z0 F_ord) hZ (hw _ (List.mem_of_getElem? (i := 37) rfl)) (hw _ (List.mem_of_getElem? (i := 36) rfl)) (by decide) (by decide)) q1a q1c (g := (mkF m 1 #[.val (.ref o0), .val (.int p1)] [(.ref o0)])) rfl (by rw [hml]; rfl) (Steps.refl _) (argsL := []) (rest := []) (lenOf pd_4L_0 rfl) rfl (by show 2 * 0 + _ ≤ _; exact Nat.le_of_eq rfl) (hb hby d4_1) (fun _ _ => ⟨rfl, e0, (by decide : 0 + 0 ≤ _), (by decide : 0 + 0 ≤ _)⟩)
  dsimp only [Pt.U, Pt.locs, Pt.cells, Pt.slots] at X1 l1 y1 z1 st1 hQ1
  subst l1 y1 z1
  obtain ⟨rfl, N1q, e1⟩ := hQ1
  have hl1 : (f5L) = (1 : Int32) := rfl
  have N1 := Fr.app N0 N1q
  refine OGo.st (fun _ k => st1.trans k) ?_
  show OGo p e below s _ _ _ (T1.setTop (mkF m 4 #[.val (.ref o0), .val (.int p1)] [(.int (1 : Int32))]))
  refine OGo.st (fun _ k => X1.lookupswitchHit hx (g := (mkF m 4 #[.val (.ref o0), .val (.int p1)] [(.int (1 : Int32))])) rfl rfl (hb hby d4_4) (by decide) (a := 1) (off := 42) rfl (by show (0 : Int) ≤ ((4 : Nat) : Int) + 42; decide) _ k) ?_
  show OGo p e below s _ _ _ (T1.setTop (mkF m 46 #[.val (.ref o0), .val (.int p1)] []))
  refine OGo.st (fun _ k => XS.iloadN X1.here hx rfl (hb hby d4_46) rfl k) ?_
  show OGo p e below s _ _ _ (T1.setTop (mkF m 47 #[.val (.ref o0), .val (.int p1)] [(.int p1)]))
  refine OGo.st (fun _ k => XS.iconst X1.here hx rfl (hb hby d4_47) k) ?_
  show OGo p e below s _ _ _ (T1.setTop (mkF m 48 #[.val (.ref o0), .val (.int p1)] [(.int (4 : Int32)), (.int p1)]))
  refine OGo.st (fun _ k => XS.iadd X1.here hx rfl (hb hby d4_48) rfl k) ?_
  show OGo p e below s _ _ _ (T1.setTop (mkF m 49 #[.val (.ref o0), .val (.int p1)] [(.int (p1 + (4 : Int32)))]))
  refine OGo.st (fun _ k => XS.iconst X1.here hx rfl (hb hby d4_49) k) ?_
  show OGo p e below s _ _ _ (T1.setTop (mkF m 50 #[.val (.ref o0), .val (.int p1)] [(.int (1 : Int32)), (.int (p1 + (4 : Int32)))]))
  refine OGo.st (fun _ k => XS.isub X1.here hx rfl (hb hby d4_50) rfl k) ?_
  show OGo p e below s _ _ _ (T1.setTop (mkF m 51 #[.val (.ref o0), .val (.int p1)] [(.int ((p1 + (4 : Int32)) - (1 : Int32)))]))
  refine OGo.st (fun _ k => XS.iconst X1.here hx rfl (hb hby d4_51) k) ?_
  show OGo p e below s _ _ _ (T1.setTop (mkF m 52 #[.val (.ref o0), .val (.int p1)] [(.int (4 : Int32)), (.int ((p1 + (4 : Int32)) - (1 : Int32)))]))
  refine OGo.st (fun _ k => XS.idiv X1.here hx rfl (hb hby d4_52) rfl (by decide) k) ?_
  show OGo p e below s _ _ _ (T1.setTop (mkF m 53 #[.val (.ref o0), .val (.int p1)] [(.int (((p1 + (4 : Int32)) - (1 : Int32)) / (4 : Int32)))]))
  exact oretI X1 hx Bd.notSynchronized Bd.returns (hb hby d4_53) e1 ⟨(congrArg (fun z => some (Value.int z)) (show (((p1 + (4 : Int32)) - (1 : Int32)) / (4 : Int32)) = f4L p1 from Eq.symm (by unfold f4L; exact rfl))), N1, rfl⟩ (by decide) (by decide)
theorem pd_2L_0 : parseMethodDescriptor "(I)I" = some ⟨[.int], some .int⟩ := by decide +kernel
theorem ef_2L (m : MethodId) (o0 : Addr) (q1 : Int64) (p2 : Int32) (o3 : Addr) : entryFrame m #[(.ref o0), (.long q1), (.int p2), (.ref o3)] 5 = mkF m 0 #[.val (.ref o0), .val (.long q1), .second, .val (.int p2), .val (.ref o3)] [] := by first | (simp [entryFrame, mkF, argsToLocals, Value.category]; done) | rfl
def Q2L (Z : State) (o0 : Addr) (q1 : Int64) (p2 : Int32) (o3 : Addr) (h0 : Heap) (n0 : Nat) (v : Option Value) (h : Heap) (L : List Loc) : Prop := v = none ∧ Fr n0 L ∧ Keep h0 h [o0] ∧ Fld Z h o0 "com/example/hazy_set/hazyset/BloomShape" "bitCount" "J" (.long q1) ∧ Fld Z h o0 "com/example/hazy_set/hazyset/BloomShape" "hashCount" "I" (.int p2) ∧ Fld Z h o0 "com/example/hazy_set/hazyset/BloomShape" "layout" "Lcom/example/hazy_set/hazyset/BloomShape$Layout;" (.ref o3)
set_option maxRecDepth 65536 in
set_option maxHeartbeats 40000000 in
theorem rm2L (l : Launch) (Z : State) (a0 : Array Value) (hw : ∀ d ∈ tables_1, d.before a0 Z = true) (ws : List Jvm.Cond) (o0 : Addr) (q1 : Int64) (p2 : Int32) (o3 : Addr) (h0 : Heap) (n0 : Nat) (Z0 : n0 ≤ h0.size) (E_o0 : Exa Z h0 o0 "com/example/hazy_set/hazyset/BloomShape") (F_bitCount : Fld Z h0 o0 "com/example/hazy_set/hazyset/BloomShape" "bitCount" "J" (.long (0 : Int64))) (F_hashCount : Fld Z h0 o0 "com/example/hazy_set/hazyset/BloomShape" "hashCount" "I" (.int (0 : Int32))) (F_layout : Fld Z h0 o0 "com/example/hazy_set/hazyset/BloomShape" "layout" "Lcom/example/hazy_set/hazyset/BloomShape$Layout;" .null) (F_lineCount : Fld Z h0 o0 "com/example/hazy_set/hazyset/BloomShape" "lineCount" "J" (.long (0 : Int64))) (F_linesPerElement : Fld Z h0 o0 "com/example/hazy_set/hazyset/BloomShape" "linesPerElement" "I" (.int (0 : Int32))) (F_bitsPerLine : Fld Z h0 o0 "com/example/hazy_set/hazyset/BloomShape" "bitsPerLine" "I" (.int (0 : Int32))) (F_longerLines : Fld Z h0 o0 "com/example/hazy_set/hazyset/BloomShape" "longerLines" "I" (.int (0 : Int32))) (E_o3 : Exa Z h0 o3 "com/example/hazy_set/hazyset/BloomShape$Layout") (F_shift : Fld Z h0 o3 "com/example/hazy_set/hazyset/BloomShape$Layout" "lineShift" "I" (.int (9 : Int32))) (F_ord : Fld Z h0 o3 "java/lang/Enum" "ordinal" "I" (.int (1 : Int32))) (g_o0 : n0 ≤ o0) (ne_o3_o0 : o3 ≠ o0) (hk : (0 : Int32) < p2) :
    MetFree l (⟨"com/example/hazy_set/hazyset/BloomShape", "<init>", "(JILcom/example/hazy_set/hazyset/BloomShape$Layout;)V"⟩ : MethodName) (head1 (Jvm.Cond.code (⟨"com/example/hazy_set/hazyset/BloomShape", "<init>", "(JILcom/example/hazy_set/hazyset/BloomShape$Layout;)V"⟩ : MethodName) prog_2_method_1_code 5 none :: ws) ({ frames := 2, cells := 0, slots := 0, locals := 26 } : Room)) (fun a U => a = #[(.ref o0), (.long q1), (.int p2), (.ref o3)] ∧ Z.Warmed39 U.vm ∧ U.heap = h0) (fun _ _ _ _ _ => True) (fun _ U o U' => ∃ v L, o = .returned v ∧ Q2L Z o0 q1 p2 o3 h0 n0 v U'.heap L ∧ FrameEnd U o U' L ({ frames := 2, cells := 0, slots := 0, locals := 26 } : Room).cells ({ frames := 2, cells := 0, slots := 0, locals := 26 } : Room).slots) := by
  refine MetFree.of_bodySF (plainFor_of_name pn_2) hisR ?_
  intro p e s m args below meth c s₁ Bd hml0 hP hK
  obtain ⟨rfl, hZ, hh⟩ := hP
  have hx := Bd.exec
  have hby := Bd.bytes
  have hml : c.maxLocals = 5 := hml0
  have hown : s.vm.findClass "com/example/hazy_set/hazyset/BloomShape" = some m.cls := findClass_of_methodNamed Bd.named
  have hnm := (name_of_methodNamed Bd.named Bd.method).1
  have X0 : Stand p l e ({ frames := 2, cells := 0, slots := 0, locals := 26 } : Room) s m #[(.ref o0), (.long q1), (.int p2), (.ref o3)] below meth c s₁ [] 0 0 := Stand.of_body Bd
  have e0 : s₁.heap = h0 := by rw [← hh, Bd.state]; rfl
  have N0 := Fr.nil n0
  show OGo p e below s (Q2L Z o0 q1 p2 o3 h0 n0) ({ frames := 2, cells := 0, slots := 0, locals := 26 } : Room).cells ({ frames := 2, cells := 0, slots := 0, locals := 26 } : Room).slots _
  refine OGo.st (fun _ k => castTop (ef_2L m o0 q1 p2 o3) k) ?_
  show OGo p e below s _ _ _ (s₁.setTop (mkF m 0 #[.val (.ref o0), .val (.long q1), .second, .val (.int p2), .val (.ref o3)] []))
  refine OGo.st (fun _ k => XS.aloadN X0.here hx rfl (hb hby d2_0) rfl rfl k) ?_
  show OGo p e below s _ _ _ (s₁.setTop (mkF m 1 #[.val (.ref o0), .val (.long q1), .second, .val (.int p2), .val (.ref o3)] [(.ref o0)]))
  obtain ⟨T1, X1, e1, st1⟩ := initO X0 hx hZ hown (hw _ (List.mem_of_getElem? (i := 14) rfl)) (hw _ (List.mem_of_getElem? (i := 15) rfl)) (hw _ (List.mem_of_getElem? (i := 16) rfl)) e0 (g := (mkF m 1 #[.val (.ref o0), .val (.long q1), .second, .val (.int p2), .val (.ref o3)] [(.ref o0)])) rfl (by rw [hml]; rfl) rfl (hb hby d2_1) (by decide) (W := 0) (by show 2 * 0 + _ ≤ _; exact Nat.le_of_eq rfl) (by decide)
  refine OGo.st st1 ?_
  show OGo p e below s _ _ _ (T1.setTop (mkF m 4 #[.val (.ref o0), .val (.long q1), .second, .val (.int p2), .val (.ref o3)] []))
  refine OGo.st (fun _ k => XS.aloadN X1.here hx rfl (hb hby d2_4) rfl rfl k) ?_
  show OGo p e below s _ _ _ (T1.setTop (mkF m 5 #[.val (.ref o0), .val (.long q1), .second, .val (.int p2), .val (.ref o3)] [(.ref o0)]))
  refine OGo.st (fun _ k => XS.lloadN X1.here hx rfl (hb hby d2_5) rfl k) ?_
  show OGo p e below s _ _ _ (T1.setTop (mkF m 6 #[.val (.ref o0), .val (.long q1), .second, .val (.int p2), .val (.ref o3)] [(.long q1), (.ref o0)]))
  obtain ⟨T2, h2, X2, e2, W2, st2⟩ := putF X1 hx hZ hown (host := "") (Or.inl (hw _ (List.mem_of_getElem? (i := 17) rfl))) Via.refl e1 F_bitCount E_o0 (Or.inr ⟨(hw _ (List.mem_of_getElem? (i := 18) rfl)), rfl, hnm⟩) (hw _ (List.mem_of_getElem? (i := 9) rfl)) (ty := .long) (by decide) rfl rfl (g := (mkF m 6 #[.val (.ref o0), .val (.long q1), .second, .val (.int p2), .val (.ref o3)] [(.long q1), (.ref o0)])) rfl rfl (hb hby d2_6)
  refine OGo.st st2 ?_
  have E_o0_w2 := E_o0.wr W2
  have F_hashCount_w2 := F_hashCount.other W2 (Or.inr (slot_ne (a0 := a0) (Or.inr (hw _ (List.mem_of_getElem? (i := 20) rfl))) (Or.inr (hw _ (List.mem_of_getElem? (i := 18) rfl))) (by decide) (t := .int) (t' := .long) (by decide) (by decide)))
  have F_layout_w2 := F_layout.other W2 (Or.inr (slot_ne (a0 := a0) (Or.inr (hw _ (List.mem_of_getElem? (i := 22) rfl))) (Or.inr (hw _ (List.mem_of_getElem? (i := 18) rfl))) (by decide) (t := (.object "com/example/hazy_set/hazyset/BloomShape$Layout")) (t' := .long) (by decide) (by decide)))
  have F_lineCount_w2 := F_lineCount.other W2 (Or.inr (slot_ne (a0 := a0) (Or.inr (hw _ (List.mem_of_getElem? (i := 26) rfl))) (Or.inr (hw _ (List.mem_of_getElem? (i := 18) rfl))) (by decide) (t := .long) (t' := .long) (by decide) (by decide)))
  have F_linesPerElement_w2 := F_linesPerElement.other W2 (Or.inr (slot_ne (a0 := a0) (Or.inr (hw _ (List.mem_of_getElem? (i := 41) rfl))) (Or.inr (hw _ (List.mem_of_getElem? (i := 18) rfl))) (by decide) (t := .int) (t' := .long) (by decide) (by decide)))
  have F_bitsPerLine_w2 := F_bitsPerLine.other W2 (Or.inr (slot_ne (a0 := a0) (Or.inr (hw _ (List.mem_of_getElem? (i := 43) rfl))) (Or.inr (hw _ (List.mem_of_getElem? (i := 18) rfl))) (by decide) (t := .int) (t' := .long) (by decide) (by decide)))
  have F_longerLines_w2 := F_longerLines.other W2 (Or.inr (slot_ne (a0 := a0) (Or.inr (hw _ (List.mem_of_getElem? (i := 45) rfl))) (Or.inr (hw _ (List.mem_of_getElem? (i := 18) rfl))) (by decide) (t := .int) (t' := .long) (by decide) (by decide)))
  have E_o3_w2 := E_o3.wr W2
  have F_shift_w2 := F_shift.other W2 (Or.inl ne_o3_o0)
  have F_ord_w2 := F_ord.other W2 (Or.inl ne_o3_o0)
  have K2 : Keep h0 h2 [o0] := (Keep.refl h0 _).wr W2 (Or.inl (List.mem_of_getElem? (i := 0) rfl))
  have N2 := Fr.snoc X2 N0 g_o0
  have Z2 : n0 ≤ h2.size := Nat.le_trans Z0 (Keep.of_wr W2).1
  have F2 : Fld Z h2 o0 "com/example/hazy_set/hazyset/BloomShape" "bitCount" "J" (.long q1) := F_bitCount.same W2
  show OGo p e below s _ _ _ (T2.setTop (mkF m 9 #[.val (.ref o0), .val (.long q1), .second, .val (.int p2), .val (.ref o3)] []))
  refine OGo.st (fun _ k => XS.aloadN X2.here hx rfl (hb hby d2_9) rfl rfl k) ?_
  show OGo p e below s _ _ _ (T2.setTop (mkF m 10 #[.val (.ref o0), .val (.long q1), .second, .val (.int p2), .val (.ref o3)] [(.ref o0)]))
  refine OGo.st (fun _ k => XS.iloadN X2.here hx rfl (hb hby d2_10) rfl k) ?_
  show OGo p e below s _ _ _ (T2.setTop (mkF m 11 #[.val (.ref o0), .val (.long q1), .second, .val (.int p2), .val (.ref o3)] [(.int p2), (.ref o0)]))
  obtain ⟨T3, h3, X3, e3, W3, st3⟩ := putF X2 hx hZ hown (host := "") (Or.inl (hw _ (List.mem_of_getElem? (i := 19) rfl))) Via.refl e2 F_hashCount_w2 E_o0_w2 (Or.inr ⟨(hw _ (List.mem_of_getElem? (i := 20) rfl)), rfl, hnm⟩) (hw _ (List.mem_of_getElem? (i := 9) rfl)) (ty := .int) (by decide) rfl rfl (g := (mkF m 11 #[.val (.ref o0), .val (.long q1), .second, .val (.int p2), .val (.ref o3)] [(.int p2), (.ref o0)])) rfl rfl (hb hby d2_11)
  refine OGo.st st3 ?_
  have E_o0_w3 := E_o0_w2.wr W3
  have F2_w3 := F2.other W3 (Or.inr (slot_ne (a0 := a0) (Or.inr (hw _ (List.mem_of_getElem? (i := 18) rfl))) (Or.inr (hw _ (List.mem_of_getElem? (i := 20) rfl))) (by decide) (t := .long) (t' := .int) (by decide) (by decide)))
  have F_layout_w3 := F_layout_w2.other W3 (Or.inr (slot_ne (a0 := a0) (Or.inr (hw _ (List.mem_of_getElem? (i := 22) rfl))) (Or.inr (hw _ (List.mem_of_getElem? (i := 20) rfl))) (by decide) (t := (.object "com/example/hazy_set/hazyset/BloomShape$Layout")) (t' := .int) (by decide) (by decide)))
  have F_lineCount_w3 := F_lineCount_w2.other W3 (Or.inr (slot_ne (a0 := a0) (Or.inr (hw _ (List.mem_of_getElem? (i := 26) rfl))) (Or.inr (hw _ (List.mem_of_getElem? (i := 20) rfl))) (by decide) (t := .long) (t' := .int) (by decide) (by decide)))
  have F_linesPerElement_w3 := F_linesPerElement_w2.other W3 (Or.inr (slot_ne (a0 := a0) (Or.inr (hw _ (List.mem_of_getElem? (i := 41) rfl))) (Or.inr (hw _ (List.mem_of_getElem? (i := 20) rfl))) (by decide) (t := .int) (t' := .int) (by decide) (by decide)))
  have F_bitsPerLine_w3 := F_bitsPerLine_w2.other W3 (Or.inr (slot_ne (a0 := a0) (Or.inr (hw _ (List.mem_of_getElem? (i := 43) rfl))) (Or.inr (hw _ (List.mem_of_getElem? (i := 20) rfl))) (by decide) (t := .int) (t' := .int) (by decide) (by decide)))
  have F_longerLines_w3 := F_longerLines_w2.other W3 (Or.inr (slot_ne (a0 := a0) (Or.inr (hw _ (List.mem_of_getElem? (i := 45) rfl))) (Or.inr (hw _ (List.mem_of_getElem? (i := 20) rfl))) (by decide) (t := .int) (t' := .int) (by decide) (by decide)))
  have E_o3_w3 := E_o3_w2.wr W3
  have F_shift_w3 := F_shift_w2.other W3 (Or.inl ne_o3_o0)
  have F_ord_w3 := F_ord_w2.other W3 (Or.inl ne_o3_o0)
  have K3 : Keep h0 h3 [o0] := (K2).wr W3 (Or.inl (List.mem_of_getElem? (i := 0) rfl))
  have N3 := Fr.snoc X3 N2 g_o0
  have Z3 : n0 ≤ h3.size := Nat.le_trans Z2 (Keep.of_wr W3).1
  have F3 : Fld Z h3 o0 "com/example/hazy_set/hazyset/BloomShape" "hashCount" "I" (.int p2) := F_hashCount_w2.same W3
  show OGo p e below s _ _ _ (T3.setTop (mkF m 14 #[.val (.ref o0), .val (.long q1), .second, .val (.int p2), .val (.ref o3)] []))
  refine OGo.st (fun _ k => XS.aloadN X3.here hx rfl (hb hby d2_14) rfl rfl k) ?_
  show OGo p e below s _ _ _ (T3.setTop (mkF m 15 #[.val (.ref o0), .val (.long q1), .second, .val (.int p2), .val (.ref o3)] [(.ref o0)]))
  refine OGo.st (fun _ k => XS.aload X3.here hx rfl (hb hby d2_15) rfl rfl k) ?_
  show OGo p e below s _ _ _ (T3.setTop (mkF m 17 #[.val (.ref o0), .val (.long q1), .second, .val (.int p2), .val (.ref o3)] [(.ref o3), (.ref o0)]))
  obtain ⟨T4, h4, X4, e4, W4, st4⟩ := putF X3 hx hZ hown (host := "") (Or.inl (hw _ (List.mem_of_getElem? (i := 21) rfl))) Via.refl e3 F_layout_w3 E_o0_w3 (Or.inr ⟨(hw _ (List.mem_of_getElem? (i := 22) rfl)), rfl, hnm⟩) (hw _ (List.mem_of_getElem? (i := 9) rfl)) (ty := (.object "com/example/hazy_set/hazyset/BloomShape$Layout")) (by decide) rfl rfl (g := (mkF m 17 #[.val (.ref o0), .val (.long q1), .second, .val (.int p2), .val (.ref o3)] [(.ref o3), (.ref o0)])) rfl rfl (hb hby d2_17)
  refine OGo.st st4 ?_
  have E_o0_w4 := E_o0_w3.wr W4
  have F2_w4 := F2_w3.other W4 (Or.inr (slot_ne (a0 := a0) (Or.inr (hw _ (List.mem_of_getElem? (i := 18) rfl))) (Or.inr (hw _ (List.mem_of_getElem? (i := 22) rfl))) (by decide) (t := .long) (t' := (.object "com/example/hazy_set/hazyset/BloomShape$Layout")) (by decide) (by decide)))
  have F3_w4 := F3.other W4 (Or.inr (slot_ne (a0 := a0) (Or.inr (hw _ (List.mem_of_getElem? (i := 20) rfl))) (Or.inr (hw _ (List.mem_of_getElem? (i := 22) rfl))) (by decide) (t := .int) (t' := (.object "com/example/hazy_set/hazyset/BloomShape$Layout")) (by decide) (by decide)))
  have F_lineCount_w4 := F_lineCount_w3.other W4 (Or.inr (slot_ne (a0 := a0) (Or.inr (hw _ (List.mem_of_getElem? (i := 26) rfl))) (Or.inr (hw _ (List.mem_of_getElem? (i := 22) rfl))) (by decide) (t := .long) (t' := (.object "com/example/hazy_set/hazyset/BloomShape$Layout")) (by decide) (by decide)))
  have F_linesPerElement_w4 := F_linesPerElement_w3.other W4 (Or.inr (slot_ne (a0 := a0) (Or.inr (hw _ (List.mem_of_getElem? (i := 41) rfl))) (Or.inr (hw _ (List.mem_of_getElem? (i := 22) rfl))) (by decide) (t := .int) (t' := (.object "com/example/hazy_set/hazyset/BloomShape$Layout")) (by decide) (by decide)))
  have F_bitsPerLine_w4 := F_bitsPerLine_w3.other W4 (Or.inr (slot_ne (a0 := a0) (Or.inr (hw _ (List.mem_of_getElem? (i := 43) rfl))) (Or.inr (hw _ (List.mem_of_getElem? (i := 22) rfl))) (by decide) (t := .int) (t' := (.object "com/example/hazy_set/hazyset/BloomShape$Layout")) (by decide) (by decide)))
  have F_longerLines_w4 := F_longerLines_w3.other W4 (Or.inr (slot_ne (a0 := a0) (Or.inr (hw _ (List.mem_of_getElem? (i := 45) rfl))) (Or.inr (hw _ (List.mem_of_getElem? (i := 22) rfl))) (by decide) (t := .int) (t' := (.object "com/example/hazy_set/hazyset/BloomShape$Layout")) (by decide) (by decide)))
  have E_o3_w4 := E_o3_w3.wr W4
  have F_shift_w4 := F_shift_w3.other W4 (Or.inl ne_o3_o0)
  have F_ord_w4 := F_ord_w3.other W4 (Or.inl ne_o3_o0)
  have K4 : Keep h0 h4 [o0] := (K3).wr W4 (Or.inl (List.mem_of_getElem? (i := 0) rfl))
  have N4 := Fr.snoc X4 N3 g_o0
  have Z4 : n0 ≤ h4.size := Nat.le_trans Z3 (Keep.of_wr W4).1
  have F4 : Fld Z h4 o0 "com/example/hazy_set/hazyset/BloomShape" "layout" "Lcom/example/hazy_set/hazyset/BloomShape$Layout;" (.ref o3) := F_layout_w3.same W4
  show OGo p e below s _ _ _ (T4.setTop (mkF m 20 #[.val (.ref o0), .val (.long q1), .second, .val (.int p2), .val (.ref o3)] []))
  refine OGo.st (fun _ k => XS.aloadN X4.here hx rfl (hb hby d2_20) rfl rfl k) ?_
  show OGo p e below s _ _ _ (T4.setTop (mkF m 21 #[.val (.ref o0), .val (.long q1), .second, .val (.int p2), .val (.ref o3)] [(.ref o0)]))
  refine OGo.st (fun _ k => XS.lloadN X4.here hx rfl (hb hby d2_21) rfl k) ?_
  show OGo p e below s _ _ _ (T4.setTop (mkF m 22 #[.val (.ref o0), .val (.long q1), .second, .val (.int p2), .val (.ref o3)] [(.long q1), (.ref o0)]))
  refine OGo.st (fun _ k => XS.aload X4.here hx rfl (hb hby d2_22) rfl rfl k) ?_
  show OGo p e below s _ _ _ (T4.setTop (mkF m 24 #[.val (.ref o0), .val (.long q1), .second, .val (.int p2), .val (.ref o3)] [(.ref o3), (.long q1), (.ref o0)]))
  refine OGo.st (fun _ k => ogetFR X4 hx hZ hown (hw _ (List.mem_of_getElem? (i := 23) rfl)) e4 F_shift_w4 (g := (mkF m 24 #[.val (.ref o0), .val (.long q1), .second, .val (.int p2), .val (.ref o3)] [(.ref o3), (.long q1), (.ref o0)])) rfl rfl (hb hby d2_24) k) ?_
  show OGo p e below s _ _ _ (T4.setTop (mkF m 27 #[.val (.ref o0), .val (.long q1), .second, .val (.int p2), .val (.ref o3)] [(.int (9 : Int32)), (.long q1), (.ref o0)]))
  refine OGo.st (fun _ k => XS.lushr X4.here hx rfl (hb hby d2_27) rfl k) ?_
  show OGo p e below s _ _ _ (T4.setTop (mkF m 28 #[.val (.ref o0), .val (.long q1), .second, .val (.int p2), .val (.ref o3)] [(.long ((q1.toUInt64 >>> ((9 : Int32) &&& 0x3f).toInt64.toUInt64).toInt64)), (.ref o0)]))
  obtain ⟨T5, h5, X5, e5, W5, st5⟩ := putF X4 hx hZ hown (host := "") (Or.inl (hw _ (List.mem_of_getElem? (i := 25) rfl))) Via.refl e4 F_lineCount_w4 E_o0_w4 (Or.inr ⟨(hw _ (List.mem_of_getElem? (i := 26) rfl)), rfl, hnm⟩) (hw _ (List.mem_of_getElem? (i := 9) rfl)) (ty := .long) (by decide) rfl rfl (g := (mkF m 28 #[.val (.ref o0), .val (.long q1), .second, .val (.int p2), .val (.ref o3)] [(.long ((q1.toUInt64 >>> ((9 : Int32) &&& 0x3f).toInt64.toUInt64).toInt64)), (.ref o0)])) rfl rfl (hb hby d2_28)
  refine OGo.st st5 ?_
  have E_o0_w5 := E_o0_w4.wr W5
  have F2_w5 := F2_w4.other W5 (Or.inr (slot_ne (a0 := a0) (Or.inr (hw _ (List.mem_of_getElem? (i := 18) rfl))) (Or.inr (hw _ (List.mem_of_getElem? (i := 26) rfl))) (by decide) (t := .long) (t' := .long) (by decide) (by decide)))
  have F3_w5 := F3_w4.other W5 (Or.inr (slot_ne (a0 := a0) (Or.inr (hw _ (List.mem_of_getElem? (i := 20) rfl))) (Or.inr (hw _ (List.mem_of_getElem? (i := 26) rfl))) (by decide) (t := .int) (t' := .long) (by decide) (by decide)))
  have F4_w5 := F4.other W5 (Or.inr (slot_ne (a0 := a0) (Or.inr (hw _ (List.mem_of_getElem? (i := 22) rfl))) (Or.inr (hw _ (List.mem_of_getElem? (i := 26) rfl))) (by decide) (t := (.object "com/example/hazy_set/hazyset/BloomShape$Layout")) (t' := .long) (by decide) (by decide)))
  have F_linesPerElement_w5 := F_linesPerElement_w4.other W5 (Or.inr (slot_ne (a0 := a0) (Or.inr (hw _ (List.mem_of_getElem? (i := 41) rfl))) (Or.inr (hw _ (List.mem_of_getElem? (i := 26) rfl))) (by decide) (t := .int) (t' := .long) (by decide) (by decide)))
  have F_bitsPerLine_w5 := F_bitsPerLine_w4.other W5 (Or.inr (slot_ne (a0 := a0) (Or.inr (hw _ (List.mem_of_getElem? (i := 43) rfl))) (Or.inr (hw _ (List.mem_of_getElem? (i := 26) rfl))) (by decide) (t := .int) (t' := .long) (by decide) (by decide)))
  have F_longerLines_w5 := F_longerLines_w4.other W5 (Or.inr (slot_ne (a0 := a0) (Or.inr (hw _ (List.mem_of_getElem? (i := 45) rfl))) (Or.inr (hw _ (List.mem_of_getElem? (i := 26) rfl))) (by decide) (t := .int) (t' := .long) (by decide) (by decide)))
  have E_o3_w5 := E_o3_w4.wr W5
  have F_shift_w5 := F_shift_w4.other W5 (Or.inl ne_o3_o0)
  have F_ord_w5 := F_ord_w4.other W5 (Or.inl ne_o3_o0)
  have K5 : Keep h0 h5 [o0] := (K4).wr W5 (Or.inl (List.mem_of_getElem? (i := 0) rfl))
  have N5 := Fr.snoc X5 N4 g_o0
  have Z5 : n0 ≤ h5.size := Nat.le_trans Z4 (Keep.of_wr W5).1
  have F5 : Fld Z h5 o0 "com/example/hazy_set/hazyset/BloomShape" "lineCount" "J" (.long ((q1.toUInt64 >>> ((9 : Int32) &&& 0x3f).toInt64.toUInt64).toInt64)) := F_lineCount_w4.same W5
  show OGo p e below s _ _ _ (T5.setTop (mkF m 31 #[.val (.ref o0), .val (.long q1), .second, .val (.int p2), .val (.ref o3)] []))
  refine OGo.st (fun _ k => XS.aloadN X5.here hx rfl (hb hby d2_31) rfl rfl k) ?_
  show OGo p e below s _ _ _ (T5.setTop (mkF m 32 #[.val (.ref o0), .val (.long q1), .second, .val (.int p2), .val (.ref o3)] [(.ref o0)]))
  refine OGo.st (fun _ k => XS.aload X5.here hx rfl (hb hby d2_32) rfl rfl k) ?_
  show OGo p e below s _ _ _ (T5.setTop (mkF m 34 #[.val (.ref o0), .val (.long q1), .second, .val (.int p2), .val (.ref o3)] [(.ref o3), (.ref o0)]))
  refine OGo.st (fun _ k => XS.iloadN X5.here hx rfl (hb hby d2_34) rfl k) ?_
  show OGo p e below s _ _ _ (T5.setTop (mkF m 35 #[.val (.ref o0), .val (.long q1), .second, .val (.int p2), .val (.ref o3)] [(.int p2), (.ref o3), (.ref o0)]))
  obtain ⟨_, _, ⟨T6, L6, k6, n6⟩, -, X6, ⟨Lc6, hQ6, l6, y6, z6⟩, st6⟩ := oprivR X5 hx hZ (y := (⟨"com/example/hazy_set/hazyset/BloomShape$Layout", "linesPerElement", "(I)I"⟩ : MethodName)) hown (hw _ (List.mem_of_getElem? (i := 27) rfl)) (hw _ (List.mem_of_getElem? (i := 28) rfl)) (hw _ (List.mem_of_getElem? (i := 29) rfl)) (hw _ (List.mem_of_getElem? (i := 30) rfl)) (hw _ (List.mem_of_getElem? (i := 32) rfl)) (by decide) (backOf (W := 1) (rm4L l Z a0 hw [] o3 p2 h5 n0 Z5 E_o3_w5 F_ord_w5) hZ (hw _ (List.mem_of_getElem? (i := 30) rfl)) (hw _ (List.mem_of_getElem? (i := 6) rfl)) (by decide) (by decide)) e5 E_o3_w5 (g := (mkF m 35 #[.val (.ref o0), .val (.long q1), .second, .val (.int p2), .val (.ref o3)] [(.int p2), (.ref o3), (.ref o0)])) rfl (by rw [hml]; rfl) (argsL := [(.int p2)]) (rest := [(.ref o0)]) (lenOf pd_2L_0 rfl) rfl (by show 2 * 0 + _ ≤ _; exact Nat.le_of_eq rfl) (hb hby d2_35) (fun _ _ => ⟨rfl, e5, (by decide : 0 + 0 ≤ _), (by decide : 0 + 0 ≤ _)⟩)
  dsimp only [Pt.U, Pt.locs, Pt.cells, Pt.slots] at X6 l6 y6 z6 st6 hQ6
  subst l6 y6 z6
  obtain ⟨rfl, N6q, e6⟩ := hQ6
  have N6 := Fr.app N5 N6q
  refine OGo.st (fun _ k => st6.trans k) ?_
  show OGo p e below s _ _ _ (T6.setTop (mkF m 38 #[.val (.ref o0), .val (.long q1), .second, .val (.int p2), .val (.ref o3)] [(.int (f4L p2)), (.ref o0)]))
  obtain ⟨T7, h7, X7, e7, W7, st7⟩ := putF X6 hx hZ hown (host := "") (Or.inl (hw _ (List.mem_of_getElem? (i := 40) rfl))) Via.refl e6 F_linesPerElement_w5 E_o0_w5 (Or.inr ⟨(hw _ (List.mem_of_getElem? (i := 41) rfl)), rfl, hnm⟩) (hw _ (List.mem_of_getElem? (i := 9) rfl)) (ty := .int) (by decide) rfl rfl (g := (mkF m 38 #[.val (.ref o0), .val (.long q1), .second, .val (.int p2), .val (.ref o3)] [(.int (f4L p2)), (.ref o0)])) rfl rfl (hb hby d2_38)
  refine OGo.st st7 ?_
  have E_o0_w7 := E_o0_w5.wr W7
  have F2_w7 := F2_w5.other W7 (Or.inr (slot_ne (a0 := a0) (Or.inr (hw _ (List.mem_of_getElem? (i := 18) rfl))) (Or.inr (hw _ (List.mem_of_getElem? (i := 41) rfl))) (by decide) (t := .long) (t' := .int) (by decide) (by decide)))
  have F3_w7 := F3_w5.other W7 (Or.inr (slot_ne (a0 := a0) (Or.inr (hw _ (List.mem_of_getElem? (i := 20) rfl))) (Or.inr (hw _ (List.mem_of_getElem? (i := 41) rfl))) (by decide) (t := .int) (t' := .int) (by decide) (by decide)))
  have F4_w7 := F4_w5.other W7 (Or.inr (slot_ne (a0 := a0) (Or.inr (hw _ (List.mem_of_getElem? (i := 22) rfl))) (Or.inr (hw _ (List.mem_of_getElem? (i := 41) rfl))) (by decide) (t := (.object "com/example/hazy_set/hazyset/BloomShape$Layout")) (t' := .int) (by decide) (by decide)))
  have F5_w7 := F5.other W7 (Or.inr (slot_ne (a0 := a0) (Or.inr (hw _ (List.mem_of_getElem? (i := 26) rfl))) (Or.inr (hw _ (List.mem_of_getElem? (i := 41) rfl))) (by decide) (t := .long) (t' := .int) (by decide) (by decide)))
  have F_bitsPerLine_w7 := F_bitsPerLine_w5.other W7 (Or.inr (slot_ne (a0 := a0) (Or.inr (hw _ (List.mem_of_getElem? (i := 43) rfl))) (Or.inr (hw _ (List.mem_of_getElem? (i := 41) rfl))) (by decide) (t := .int) (t' := .int) (by decide) (by decide)))
  have F_longerLines_w7 := F_longerLines_w5.other W7 (Or.inr (slot_ne (a0 := a0) (Or.inr (hw _ (List.mem_of_getElem? (i := 45) rfl))) (Or.inr (hw _ (List.mem_of_getElem? (i := 41) rfl))) (by decide) (t := .int) (t' := .int) (by decide) (by decide)))
  have E_o3_w7 := E_o3_w5.wr W7
  have F_shift_w7 := F_shift_w5.other W7 (Or.inl ne_o3_o0)
  have F_ord_w7 := F_ord_w5.other W7 (Or.inl ne_o3_o0)
  have K7 : Keep h0 h7 [o0] := (K5).wr W7 (Or.inl (List.mem_of_getElem? (i := 0) rfl))
  have N7 := Fr.snoc X7 N6 g_o0
  have Z7 : n0 ≤ h7.size := Nat.le_trans Z5 (Keep.of_wr W7).1
  have F7 : Fld Z h7 o0 "com/example/hazy_set/hazyset/BloomShape" "linesPerElement" "I" (.int (f4L p2)) := F_linesPerElement_w5.same W7
  show OGo p e below s _ _ _ (T7.setTop (mkF m 41 #[.val (.ref o0), .val (.long q1), .second, .val (.int p2), .val (.ref o3)] []))
  refine OGo.st (fun _ k => XS.aloadN X7.here hx rfl (hb hby d2_41) rfl rfl k) ?_
  show OGo p e below s _ _ _ (T7.setTop (mkF m 42 #[.val (.ref o0), .val (.long q1), .second, .val (.int p2), .val (.ref o3)] [(.ref o0)]))
  refine OGo.st (fun _ k => XS.iloadN X7.here hx rfl (hb hby d2_42) rfl k) ?_
  show OGo p e below s _ _ _ (T7.setTop (mkF m 43 #[.val (.ref o0), .val (.long q1), .second, .val (.int p2), .val (.ref o3)] [(.int p2), (.ref o0)]))
  refine OGo.st (fun _ k => XS.aloadN X7.here hx rfl (hb hby d2_43) rfl rfl k) ?_
  show OGo p e below s _ _ _ (T7.setTop (mkF m 44 #[.val (.ref o0), .val (.long q1), .second, .val (.int p2), .val (.ref o3)] [(.ref o0), (.int p2), (.ref o0)]))
  obtain ⟨T8, X8, e8, st8⟩ := getF X7 hx hZ hown (host := "") (Or.inl (hw _ (List.mem_of_getElem? (i := 40) rfl))) Via.refl e7 F7 (g := (mkF m 44 #[.val (.ref o0), .val (.long q1), .second, .val (.int p2), .val (.ref o3)] [(.ref o0), (.int p2), (.ref o0)])) rfl rfl (hb hby d2_44)
  refine OGo.st st8 ?_
  show OGo p e below s _ _ _ (T8.setTop (mkF m 47 #[.val (.ref o0), .val (.long q1), .second, .val (.int p2), .val (.ref o3)] [(.int (f4L p2)), (.int p2), (.ref o0)]))
  refine OGo.st (fun _ k => XS.idiv X8.here hx rfl (hb hby d2_47) rfl (own_nzL hk) k) ?_
  show OGo p e below s _ _ _ (T8.setTop (mkF m 48 #[.val (.ref o0), .val (.long q1), .second, .val (.int p2), .val (.ref o3)] [(.int (p2 / (f4L p2))), (.ref o0)]))
  obtain ⟨T9, h9, X9, e9, W9, st9⟩ := putF X8 hx hZ hown (host := "") (Or.inl (hw _ (List.mem_of_getElem? (i := 42) rfl))) Via.refl e8 F_bitsPerLine_w7 E_o0_w7 (Or.inr ⟨(hw _ (List.mem_of_getElem? (i := 43) rfl)), rfl, hnm⟩) (hw _ (List.mem_of_getElem? (i := 9) rfl)) (ty := .int) (by decide) rfl rfl (g := (mkF m 48 #[.val (.ref o0), .val (.long q1), .second, .val (.int p2), .val (.ref o3)] [(.int (p2 / (f4L p2))), (.ref o0)])) rfl rfl (hb hby d2_48)
  refine OGo.st st9 ?_
  have E_o0_w9 := E_o0_w7.wr W9
  have F2_w9 := F2_w7.other W9 (Or.inr (slot_ne (a0 := a0) (Or.inr (hw _ (List.mem_of_getElem? (i := 18) rfl))) (Or.inr (hw _ (List.mem_of_getElem? (i := 43) rfl))) (by decide) (t := .long) (t' := .int) (by decide) (by decide)))
  have F3_w9 := F3_w7.other W9 (Or.inr (slot_ne (a0 := a0) (Or.inr (hw _ (List.mem_of_getElem? (i := 20) rfl))) (Or.inr (hw _ (List.mem_of_getElem? (i := 43) rfl))) (by decide) (t := .int) (t' := .int) (by decide) (by decide)))
  have F4_w9 := F4_w7.other W9 (Or.inr (slot_ne (a0 := a0) (Or.inr (hw _ (List.mem_of_getElem? (i := 22) rfl))) (Or.inr (hw _ (List.mem_of_getElem? (i := 43) rfl))) (by decide) (t := (.object "com/example/hazy_set/hazyset/BloomShape$Layout")) (t' := .int) (by decide) (by decide)))
  have F5_w9 := F5_w7.other W9 (Or.inr (slot_ne (a0 := a0) (Or.inr (hw _ (List.mem_of_getElem? (i := 26) rfl))) (Or.inr (hw _ (List.mem_of_getElem? (i := 43) rfl))) (by decide) (t := .long) (t' := .int) (by decide) (by decide)))
  have F7_w9 := F7.other W9 (Or.inr (slot_ne (a0 := a0) (Or.inr (hw _ (List.mem_of_getElem? (i := 41) rfl))) (Or.inr (hw _ (List.mem_of_getElem? (i := 43) rfl))) (by decide) (t := .int) (t' := .int) (by decide) (by decide)))
  have F_longerLines_w9 := F_longerLines_w7.other W9 (Or.inr (slot_ne (a0 := a0) (Or.inr (hw _ (List.mem_of_getElem? (i := 45) rfl))) (Or.inr (hw _ (List.mem_of_getElem? (i := 43) rfl))) (by decide) (t := .int) (t' := .int) (by decide) (by decide)))
  have E_o3_w9 := E_o3_w7.wr W9
  have F_shift_w9 := F_shift_w7.other W9 (Or.inl ne_o3_o0)
  have F_ord_w9 := F_ord_w7.other W9 (Or.inl ne_o3_o0)
  have K9 : Keep h0 h9 [o0] := (K7).wr W9 (Or.inl (List.mem_of_getElem? (i := 0) rfl))
  have N9 := Fr.snoc X9 N7 g_o0
  have Z9 : n0 ≤ h9.size := Nat.le_trans Z7 (Keep.of_wr W9).1
  have F9 : Fld Z h9 o0 "com/example/hazy_set/hazyset/BloomShape" "bitsPerLine" "I" (.int (p2 / (f4L p2))) := F_bitsPerLine_w7.same W9
  show OGo p e below s _ _ _ (T9.setTop (mkF m 51 #[.val (.ref o0), .val (.long q1), .second, .val (.int p2), .val (.ref o3)] []))
  refine OGo.st (fun _ k => XS.aloadN X9.here hx rfl (hb hby d2_51) rfl rfl k) ?_
  show OGo p e below s _ _ _ (T9.setTop (mkF m 52 #[.val (.ref o0), .val (.long q1), .second, .val (.int p2), .val (.ref o3)] [(.ref o0)]))
  refine OGo.st (fun _ k => XS.iloadN X9.here hx rfl (hb hby d2_52) rfl k) ?_
  show OGo p e below s _ _ _ (T9.setTop (mkF m 53 #[.val (.ref o0), .val (.long q1), .second, .val (.int p2), .val (.ref o3)] [(.int p2), (.ref o0)]))
  refine OGo.st (fun _ k => XS.aloadN X9.here hx rfl (hb hby d2_53) rfl rfl k) ?_
  show OGo p e below s _ _ _ (T9.setTop (mkF m 54 #[.val (.ref o0), .val (.long q1), .second, .val (.int p2), .val (.ref o3)] [(.ref o0), (.int p2), (.ref o0)]))
  obtain ⟨T10, X10, e10, st10⟩ := getF X9 hx hZ hown (host := "") (Or.inl (hw _ (List.mem_of_getElem? (i := 40) rfl))) Via.refl e9 F7_w9 (g := (mkF m 54 #[.val (.ref o0), .val (.long q1), .second, .val (.int p2), .val (.ref o3)] [(.ref o0), (.int p2), (.ref o0)])) rfl rfl (hb hby d2_54)
  refine OGo.st st10 ?_
  show OGo p e below s _ _ _ (T10.setTop (mkF m 57 #[.val (.ref o0), .val (.long q1), .second, .val (.int p2), .val (.ref o3)] [(.int (f4L p2)), (.int p2), (.ref o0)]))
  refine OGo.st (fun _ k => iremM X10 hx rfl (hb hby d2_57) rfl (own_nzL hk) k) ?_
  show OGo p e below s _ _ _ (T10.setTop (mkF m 58 #[.val (.ref o0), .val (.long q1), .second, .val (.int p2), .val (.ref o3)] [(.int (p2 % (f4L p2))), (.ref o0)]))
  obtain ⟨T11, h11, X11, e11, W11, st11⟩ := putF X10 hx hZ hown (host := "") (Or.inl (hw _ (List.mem_of_getElem? (i := 44) rfl))) Via.refl e10 F_longerLines_w9 E_o0_w9 (Or.inr ⟨(hw _ (List.mem_of_getElem? (i := 45) rfl)), rfl, hnm⟩) (hw _ (List.mem_of_getElem? (i := 9) rfl)) (ty := .int) (by decide) rfl rfl (g := (mkF m 58 #[.val (.ref o0), .val (.long q1), .second, .val (.int p2), .val (.ref o3)] [(.int (p2 % (f4L p2))), (.ref o0)])) rfl rfl (hb hby d2_58)
  refine OGo.st st11 ?_
  have E_o0_w11 := E_o0_w9.wr W11
  have F2_w11 := F2_w9.other W11 (Or.inr (slot_ne (a0 := a0) (Or.inr (hw _ (List.mem_of_getElem? (i := 18) rfl))) (Or.inr (hw _ (List.mem_of_getElem? (i := 45) rfl))) (by decide) (t := .long) (t' := .int) (by decide) (by decide)))
  have F3_w11 := F3_w9.other W11 (Or.inr (slot_ne (a0 := a0) (Or.inr (hw _ (List.mem_of_getElem? (i := 20) rfl))) (Or.inr (hw _ (List.mem_of_getElem? (i := 45) rfl))) (by decide) (t := .int) (t' := .int) (by decide) (by decide)))
  have F4_w11 := F4_w9.other W11 (Or.inr (slot_ne (a0 := a0) (Or.inr (hw _ (List.mem_of_getElem? (i := 22) rfl))) (Or.inr (hw _ (List.mem_of_getElem? (i := 45) rfl))) (by decide) (t := (.object "com/example/hazy_set/hazyset/BloomShape$Layout")) (t' := .int) (by decide) (by decide)))
  have F5_w11 := F5_w9.other W11 (Or.inr (slot_ne (a0 := a0) (Or.inr (hw _ (List.mem_of_getElem? (i := 26) rfl))) (Or.inr (hw _ (List.mem_of_getElem? (i := 45) rfl))) (by decide) (t := .long) (t' := .int) (by decide) (by decide)))
  have F7_w11 := F7_w9.other W11 (Or.inr (slot_ne (a0 := a0) (Or.inr (hw _ (List.mem_of_getElem? (i := 41) rfl))) (Or.inr (hw _ (List.mem_of_getElem? (i := 45) rfl))) (by decide) (t := .int) (t' := .int) (by decide) (by decide)))
  have F9_w11 := F9.other W11 (Or.inr (slot_ne (a0 := a0) (Or.inr (hw _ (List.mem_of_getElem? (i := 43) rfl))) (Or.inr (hw _ (List.mem_of_getElem? (i := 45) rfl))) (by decide) (t := .int) (t' := .int) (by decide) (by decide)))
  have E_o3_w11 := E_o3_w9.wr W11
  have F_shift_w11 := F_shift_w9.other W11 (Or.inl ne_o3_o0)
  have F_ord_w11 := F_ord_w9.other W11 (Or.inl ne_o3_o0)
  have K11 : Keep h0 h11 [o0] := (K9).wr W11 (Or.inl (List.mem_of_getElem? (i := 0) rfl))
  have N11 := Fr.snoc X11 N9 g_o0
  have Z11 : n0 ≤ h11.size := Nat.le_trans Z9 (Keep.of_wr W11).1
  have F11 : Fld Z h11 o0 "com/example/hazy_set/hazyset/BloomShape" "longerLines" "I" (.int (p2 % (f4L p2))) := F_longerLines_w9.same W11
  show OGo p e below s _ _ _ (T11.setTop (mkF m 61 #[.val (.ref o0), .val (.long q1), .second, .val (.int p2), .val (.ref o3)] []))
  exact oret0 X11 hx Bd.notSynchronized Bd.returns (hb hby d2_61) e11 ⟨rfl, N11, K11, F2_w11, F3_w11, F4_w11⟩ (by decide) (by decide)
theorem d6_0 : decode prog_2_method_19_code 0 = .ok (.aload_n 1, 1) := by decide +kernel
theorem d6_1 : decode prog_2_method_19_code 1 = .ok (.instanceof 10, 3) := by decide +kernel
theorem d6_4 : decode prog_2_method_19_code 4 = .ok (.ifCond .eq 46, 3) := by decide +kernel
theorem d6_7 : decode prog_2_method_19_code 7 = .ok (.aload_n 1, 1) := by decide +kernel
theorem d6_8 : decode prog_2_method_19_code 8 = .ok (.checkcast 10, 3) := by decide +kernel
theorem d6_11 : decode prog_2_method_19_code 11 = .ok (.astore_n 2, 1) := by decide +kernel
theorem d6_12 : decode prog_2_method_19_code 12 = .ok (.aload_n 0, 1) := by decide +kernel
theorem d6_13 : decode prog_2_method_19_code 13 = .ok (.getfield 9, 3) := by decide +kernel
theorem d6_16 : decode prog_2_method_19_code 16 = .ok (.aload_n 2, 1) := by decide +kernel
theorem d6_17 : decode prog_2_method_19_code 17 = .ok (.getfield 9, 3) := by decide +kernel
theorem d6_20 : decode prog_2_method_19_code 20 = .ok (.lcmp, 1) := by decide +kernel
theorem d6_21 : decode prog_2_method_19_code 21 = .ok (.ifCond .ne 29, 3) := by decide +kernel
theorem d6_24 : decode prog_2_method_19_code 24 = .ok (.aload_n 0, 1) := by decide +kernel
theorem d6_25 : decode prog_2_method_19_code 25 = .ok (.getfield 15, 3) := by decide +kernel
theorem d6_28 : decode prog_2_method_19_code 28 = .ok (.aload_n 2, 1) := by decide +kernel
theorem d6_29 : decode prog_2_method_19_code 29 = .ok (.getfield 15, 3) := by decide +kernel
theorem d6_32 : decode prog_2_method_19_code 32 = .ok (.if_icmp .ne 18, 3) := by decide +kernel
theorem d6_35 : decode prog_2_method_19_code 35 = .ok (.aload_n 0, 1) := by decide +kernel
theorem d6_36 : decode prog_2_method_19_code 36 = .ok (.getfield 19, 3) := by decide +kernel
theorem d6_39 : decode prog_2_method_19_code 39 = .ok (.aload_n 2, 1) := by decide +kernel
theorem d6_40 : decode prog_2_method_19_code 40 = .ok (.getfield 19, 3) := by decide +kernel
theorem d6_43 : decode prog_2_method_19_code 43 = .ok (.if_acmp .ne 7, 3) := by decide +kernel
theorem d6_46 : decode prog_2_method_19_code 46 = .ok (.iconst 1, 1) := by decide +kernel
theorem d6_47 : decode prog_2_method_19_code 47 = .ok (.goto 4, 3) := by decide +kernel
theorem d6_50 : decode prog_2_method_19_code 50 = .ok (.iconst 0, 1) := by decide +kernel
theorem d6_51 : decode prog_2_method_19_code 51 = .ok (.ireturn, 1) := by decide +kernel
theorem pn_6 : plainName "com/example/hazy_set/hazyset/BloomShape" = true := by first | (simp [plainName, overriddenIn]; done) | decide +kernel
theorem ef_6B (m : MethodId) (o0 : Addr) (o1 : Addr) : entryFrame m #[(.ref o0), (.ref o1)] 3 = mkF m 0 #[.val (.ref o0), .val (.ref o1), .unset] [] := by first | (simp [entryFrame, mkF, argsToLocals, Value.category]; done) | rfl
def f6B (u_b0 : Int64) (u_h0 : Int32) (u_l0 : Addr) (u_b1 : Int64) (u_h1 : Int32) (u_l1 : Addr) : Int32 := (if u_b0 = u_b1 then (if u_h0 = u_h1 then (if u_l0 = u_l1 then (1 : Int32) else (0 : Int32)) else (0 : Int32)) else (0 : Int32))
def Q6B (Z : State) (o0 : Addr) (o1 : Addr) (u_b0 : Int64) (u_h0 : Int32) (u_l0 : Addr) (u_b1 : Int64) (u_h1 : Int32) (u_l1 : Addr) (h0 : Heap) (n0 : Nat) (v : Option Value) (h : Heap) (L : List Loc) : Prop := v = some (.int (f6B u_b0 u_h0 u_l0 u_b1 u_h1 u_l1)) ∧ Fr n0 L ∧ h = h0
set_option maxRecDepth 65536 in
set_option maxHeartbeats 40000000 in
theorem rm6B (l : Launch) (Z : State) (a0 : Array Value) (hw : ∀ d ∈ tables_1, d.before a0 Z = true) (ws : List Jvm.Cond) (o0 : Addr) (o1 : Addr) (u_b0 : Int64) (u_h0 : Int32) (u_l0 : Addr) (u_b1 : Int64) (u_h1 : Int32) (u_l1 : Addr) (h0 : Heap) (n0 : Nat) (Z0 : n0 ≤ h0.size) (E_o0 : Exa Z h0 o0 "com/example/hazy_set/hazyset/BloomShape") (Fb_o0 : Fld Z h0 o0 "com/example/hazy_set/hazyset/BloomShape" "bitCount" "J" (.long u_b0)) (Fh_o0 : Fld Z h0 o0 "com/example/hazy_set/hazyset/BloomShape" "hashCount" "I" (.int u_h0)) (Fl_o0 : Fld Z h0 o0 "com/example/hazy_set/hazyset/BloomShape" "layout" "Lcom/example/hazy_set/hazyset/BloomShape$Layout;" (.ref u_l0)) (E_o1 : Exa Z h0 o1 "com/example/hazy_set/hazyset/BloomShape") (Fb_o1 : Fld Z h0 o1 "com/example/hazy_set/hazyset/BloomShape" "bitCount" "J" (.long u_b1)) (Fh_o1 : Fld Z h0 o1 "com/example/hazy_set/hazyset/BloomShape" "hashCount" "I" (.int u_h1)) (Fl_o1 : Fld Z h0 o1 "com/example/hazy_set/hazyset/BloomShape" "layout" "Lcom/example/hazy_set/hazyset/BloomShape$Layout;" (.ref u_l1)) :
    MetFree l (⟨"com/example/hazy_set/hazyset/BloomShape", "equals", "(Ljava/lang/Object;)Z"⟩ : MethodName) (head1 (Jvm.Cond.code (⟨"com/example/hazy_set/hazyset/BloomShape", "equals", "(Ljava/lang/Object;)Z"⟩ : MethodName) prog_2_method_19_code 3 (some .boolean) :: ws) ({ frames := 0, cells := 0, slots := 0, locals := 0 } : Room)) (fun a U => a = #[(.ref o0), (.ref o1)] ∧ Z.Warmed39 U.vm ∧ U.heap = h0) (fun _ _ _ _ _ => True) (fun _ U o U' => ∃ v L, o = .returned v ∧ Q6B Z o0 o1 u_b0 u_h0 u_l0 u_b1 u_h1 u_l1 h0 n0 v U'.heap L ∧ FrameEnd U o U' L ({ frames := 0, cells := 0, slots := 0, locals := 0 } : Room).cells ({ frames := 0, cells := 0, slots := 0, locals := 0 } : Room).slots) := by
  refine MetFree.of_bodySF (plainFor_of_name pn_6) hisR ?_
  intro p e s m args below meth c s₁ Bd hml0 hP hK
  obtain ⟨rfl, hZ, hh⟩ := hP
  have hx := Bd.exec
  have hby := Bd.bytes
  have hml : c.maxLocals = 3 := hml0
  have hown : s.vm.findClass "com/example/hazy_set/hazyset/BloomShape" = some m.cls := findClass_of_methodNamed Bd.named
  have hnm := (name_of_methodNamed Bd.named Bd.method).1
  have X0 : Stand p l e ({ frames := 0, cells := 0, slots := 0, locals := 0 } : Room) s m #[(.ref o0), (.ref o1)] below meth c s₁ [] 0 0 := Stand.of_body Bd
  have e0 : s₁.heap = h0 := by rw [← hh, Bd.state]; rfl
  have N0 := Fr.nil n0
  show OGo p e below s (Q6B Z o0 o1 u_b0 u_h0 u_l0 u_b1 u_h1 u_l1 h0 n0) ({ frames := 0, cells := 0, slots := 0, locals := 0 } : Room).cells ({ frames := 0, cells := 0, slots := 0, locals := 0 } : Room).slots _
  refine OGo.st (fun _ k => castTop (ef_6B m o0 o1) k) ?_
  show OGo p e below s _ _ _ (s₁.setTop (mkF m 0 #[.val (.ref o0), .val (.ref o1), .unset] []))
  refine OGo.st (fun _ k => XS.aloadN X0.here hx rfl (hb hby d6_0) rfl rfl k) ?_
  show OGo p e below s _ _ _ (s₁.setTop (mkF m 1 #[.val (.ref o0), .val (.ref o1), .unset] [(.ref o1)]))
  obtain ⟨T1, X1, e1, st1⟩ := instY X0 hx hZ hown (hw _ (List.mem_of_getElem? (i := 51) rfl)) e0 (Ins.self E_o1) (g := (mkF m 1 #[.val (.ref o0), .val (.ref o1), .unset] [(.ref o1)])) rfl rfl (hb hby d6_1)
  refine OGo.st st1 ?_
  show OGo p e below s _ _ _ (T1.setTop (mkF m 4 #[.val (.ref o0), .val (.ref o1), .unset] [(.int (1 : Int32))]))
  refine OGo.st (fun _ k => XS.ifNo X1.here hx rfl (hb hby d6_4) rfl ((if0 _ _).trans (feq (by decide : ¬ ((1 : Int32) = (0 : Int32)))).1) k) ?_
  show OGo p e below s _ _ _ (T1.setTop (mkF m 7 #[.val (.ref o0), .val (.ref o1), .unset] []))
  refine OGo.st (fun _ k => XS.aloadN X1.here hx rfl (hb hby d6_7) rfl rfl k) ?_
  show OGo p e below s _ _ _ (T1.setTop (mkF m 8 #[.val (.ref o0), .val (.ref o1), .unset] [(.ref o1)]))
  obtain ⟨T2, X2, e2, st2⟩ := castY X1 hx hZ hown (hw _ (List.mem_of_getElem? (i := 51) rfl)) e1 (Ins.self E_o1) (g := (mkF m 8 #[.val (.ref o0), .val (.ref o1), .unset] [(.ref o1)])) rfl rfl (hb hby d6_8)
  refine OGo.st st2 ?_
  show OGo p e below s _ _ _ (T2.setTop (mkF m 11 #[.val (.ref o0), .val (.ref o1), .unset] [(.ref o1)]))
  refine OGo.st (fun _ k => XS.astoreN X2.here hx rfl (hb hby d6_11) rfl rfl (l' := #[.val (.ref o0), .val (.ref o1), .val (.ref o1)]) rfl k) ?_
  show OGo p e below s _ _ _ (T2.setTop (mkF m 12 #[.val (.ref o0), .val (.ref o1), .val (.ref o1)] []))
  refine OGo.st (fun _ k => XS.aloadN X2.here hx rfl (hb hby d6_12) rfl rfl k) ?_
  show OGo p e below s _ _ _ (T2.setTop (mkF m 13 #[.val (.ref o0), .val (.ref o1), .val (.ref o1)] [(.ref o0)]))
  obtain ⟨T3, X3, e3, st3⟩ := getF X2 hx hZ hown (host := "") (Or.inl (hw _ (List.mem_of_getElem? (i := 17) rfl))) Via.refl e2 Fb_o0 (g := (mkF m 13 #[.val (.ref o0), .val (.ref o1), .val (.ref o1)] [(.ref o0)])) rfl rfl (hb hby d6_13)
  refine OGo.st st3 ?_
  show OGo p e below s _ _ _ (T3.setTop (mkF m 16 #[.val (.ref o0), .val (.ref o1), .val (.ref o1)] [(.long u_b0)]))
  refine OGo.st (fun _ k => XS.aloadN X3.here hx rfl (hb hby d6_16) rfl rfl k) ?_
  show OGo p e below s _ _ _ (T3.setTop (mkF m 17 #[.val (.ref o0), .val (.ref o1), .val (.ref o1)] [(.ref o1), (.long u_b0)]))
  obtain ⟨T4, X4, e4, st4⟩ := getF X3 hx hZ hown (host := "") (Or.inl (hw _ (List.mem_of_getElem? (i := 17) rfl))) Via.refl e3 Fb_o1 (g := (mkF m 17 #[.val (.ref o0), .val (.ref o1), .val (.ref o1)] [(.ref o1), (.long u_b0)])) rfl rfl (hb hby d6_17)
  refine OGo.st st4 ?_
  show OGo p e below s _ _ _ (T4.setTop (mkF m 20 #[.val (.ref o0), .val (.ref o1), .val (.ref o1)] [(.long u_b1), (.long u_b0)]))
  refine OGo.st (fun _ k => XS.lcmp X4.here hx rfl (hb hby d6_20) rfl k) ?_
  show OGo p e below s _ _ _ (T4.setTop (mkF m 21 #[.val (.ref o0), .val (.ref o1), .val (.ref o1)] [(.int (lcmpW u_b0 u_b1))]))
  by_cases hc21 : u_b0 = u_b1
  · refine OGo.st (fun _ k => XS.ifNo X4.here hx rfl (hb hby d6_21) rfl ((if0 _ _).trans (teq ((olc_eq _ _).mpr hc21)).2) k) ?_
    show OGo p e below s _ _ _ (T4.setTop (mkF m 24 #[.val (.ref o0), .val (.ref o1), .val (.ref o1)] []))
    refine OGo.st (fun _ k => XS.aloadN X4.here hx rfl (hb hby d6_24) rfl rfl k) ?_
    show OGo p e below s _ _ _ (T4.setTop (mkF m 25 #[.val (.ref o0), .val (.ref o1), .val (.ref o1)] [(.ref o0)]))
    obtain ⟨T5, X5, e5, st5⟩ := getF X4 hx hZ hown (host := "") (Or.inl (hw _ (List.mem_of_getElem? (i := 19) rfl))) Via.refl e4 Fh_o0 (g := (mkF m 25 #[.val (.ref o0), .val (.ref o1), .val (.ref o1)] [(.ref o0)])) rfl rfl (hb hby d6_25)
    refine OGo.st st5 ?_
    show OGo p e below s _ _ _ (T5.setTop (mkF m 28 #[.val (.ref o0), .val (.ref o1), .val (.ref o1)] [(.int u_h0)]))
    refine OGo.st (fun _ k => XS.aloadN X5.here hx rfl (hb hby d6_28) rfl rfl k) ?_
    show OGo p e below s _ _ _ (T5.setTop (mkF m 29 #[.val (.ref o0), .val (.ref o1), .val (.ref o1)] [(.ref o1), (.int u_h0)]))
    obtain ⟨T6, X6, e6, st6⟩ := getF X5 hx hZ hown (host := "") (Or.inl (hw _ (List.mem_of_getElem? (i := 19) rfl))) Via.refl e5 Fh_o1 (g := (mkF m 29 #[.val (.ref o0), .val (.ref o1), .val (.ref o1)] [(.ref o1), (.int u_h0)])) rfl rfl (hb hby d6_29)
    refine OGo.st st6 ?_
    show OGo p e below s _ _ _ (T6.setTop (mkF m 32 #[.val (.ref o0), .val (.ref o1), .val (.ref o1)] [(.int u_h1), (.int u_h0)]))
    by_cases hc32 : u_h0 = u_h1
    · refine OGo.st (fun _ k => XS.icmpNo X6.here hx rfl (hb hby d6_32) rfl (teq hc32).2 k) ?_
      show OGo p e below s _ _ _ (T6.setTop (mkF m 35 #[.val (.ref o0), .val (.ref o1), .val (.ref o1)] []))
      refine OGo.st (fun _ k => XS.aloadN X6.here hx rfl (hb hby d6_35) rfl rfl k) ?_
      show OGo p e below s _ _ _ (T6.setTop (mkF m 36 #[.val (.ref o0), .val (.ref o1), .val (.ref o1)] [(.ref o0)]))
      obtain ⟨T7, X7, e7, st7⟩ := getF X6 hx hZ hown (host := "") (Or.inl (hw _ (List.mem_of_getElem? (i := 21) rfl))) Via.refl e6 Fl_o0 (g := (mkF m 36 #[.val (.ref o0), .val (.ref o1), .val (.ref o1)] [(.ref o0)])) rfl rfl (hb hby d6_36)
      refine OGo.st st7 ?_
      show OGo p e below s _ _ _ (T7.setTop (mkF m 39 #[.val (.ref o0), .val (.ref o1), .val (.ref o1)] [(.ref u_l0)]))
      refine OGo.st (fun _ k => XS.aloadN X7.here hx rfl (hb hby d6_39) rfl rfl k) ?_
      show OGo p e below s _ _ _ (T7.setTop (mkF m 40 #[.val (.ref o0), .val (.ref o1), .val (.ref o1)] [(.ref o1), (.ref u_l0)]))
      obtain ⟨T8, X8, e8, st8⟩ := getF X7 hx hZ hown (host := "") (Or.inl (hw _ (List.mem_of_getElem? (i := 21) rfl))) Via.refl e7 Fl_o1 (g := (mkF m 40 #[.val (.ref o0), .val (.ref o1), .val (.ref o1)] [(.ref o1), (.ref u_l0)])) rfl rfl (hb hby d6_40)
      refine OGo.st st8 ?_
      show OGo p e below s _ _ _ (T8.setTop (mkF m 43 #[.val (.ref o0), .val (.ref o1), .val (.ref o1)] [(.ref u_l1), (.ref u_l0)]))
      by_cases hc43 : u_l0 = u_l1
      · refine OGo.st (fun _ k => Jvm.RoadKit.acmp (g := (mkF m 43 #[.val (.ref o0), .val (.ref o1), .val (.ref o1)] [(.ref u_l1), (.ref u_l0)])) X8 hx rfl rfl rfl (pc0 := 43) (pc' := 46) (same := true) rfl (hb hby d6_43) rfl (decide_eq_true (congrArg Value.ref hc43)) (by decide) (by decide) k) ?_
        show OGo p e below s _ _ _ (T8.setTop (mkF m 46 #[.val (.ref o0), .val (.ref o1), .val (.ref o1)] []))
        refine OGo.st (fun _ k => XS.iconst X8.here hx rfl (hb hby d6_46) k) ?_
        show OGo p e below s _ _ _ (T8.setTop (mkF m 47 #[.val (.ref o0), .val (.ref o1), .val (.ref o1)] [(.int (1 : Int32))]))
        refine OGo.st (fun _ k => XS.goto X8.here hx rfl (pc0 := 47) (pc' := 51) rfl (hb hby d6_47) (by decide) (by decide) k) ?_
        show OGo p e below s _ _ _ (T8.setTop (mkF m 51 #[.val (.ref o0), .val (.ref o1), .val (.ref o1)] [(.int (1 : Int32))]))
        exact oretN X8 hx Bd.notSynchronized (t := .boolean) Bd.returns (by simp) (hb hby d6_51) (z' := (1 : Int32)) (by decide) e8 ⟨(congrArg (fun z => some (Value.int z)) (show (1 : Int32) = f6B u_b0 u_h0 u_l0 u_b1 u_h1 u_l1 from Eq.symm (by unfold f6B; exact (if_pos hc21).trans ((if_pos hc32).trans (if_pos hc43))))), N0, rfl⟩ (by decide) (by decide)
      · refine OGo.st (fun _ k => Jvm.RoadKit.acmp (g := (mkF m 43 #[.val (.ref o0), .val (.ref o1), .val (.ref o1)] [(.ref u_l1), (.ref u_l0)])) X8 hx rfl rfl rfl (pc0 := 43) (pc' := 50) (same := false) rfl (hb hby d6_43) rfl (decide_eq_false fun q => hc43 (Value.ref.inj q)) (by decide) (by decide) k) ?_
        show OGo p e below s _ _ _ (T8.setTop (mkF m 50 #[.val (.ref o0), .val (.ref o1), .val (.ref o1)] []))
        refine OGo.st (fun _ k => XS.iconst X8.here hx rfl (hb hby d6_50) k) ?_
        show OGo p e below s _ _ _ (T8.setTop (mkF m 51 #[.val (.ref o0), .val (.ref o1), .val (.ref o1)] [(.int (0 : Int32))]))
        exact oretN X8 hx Bd.notSynchronized (t := .boolean) Bd.returns (by simp) (hb hby d6_51) (z' := (0 : Int32)) (by decide) e8 ⟨(congrArg (fun z => some (Value.int z)) (show (0 : Int32) = f6B u_b0 u_h0 u_l0 u_b1 u_h1 u_l1 from Eq.symm (by unfold f6B; exact (if_pos hc21).trans ((if_pos hc32).trans (if_neg hc43))))), N0, rfl⟩ (by decide) (by decide)
    · refine OGo.st (fun _ k => XS.icmpYes X6.here hx rfl (pc0 := 32) (pc' := 50) rfl (hb hby d6_32) rfl (feq hc32).2 (by decide) (by decide) k) ?_
      show OGo p e below s _ _ _ (T6.setTop (mkF m 50 #[.val (.ref o0), .val (.ref o1), .val (.ref o1)] []))
      refine OGo.st (fun _ k => XS.iconst X6.here hx rfl (hb hby d6_50) k) ?_
      show OGo p e below s _ _ _ (T6.setTop (mkF m 51 #[.val (.ref o0), .val (.ref o1), .val (.ref o1)] [(.int (0 : Int32))]))
      exact oretN X6 hx Bd.notSynchronized (t := .boolean) Bd.returns (by simp) (hb hby d6_51) (z' := (0 : Int32)) (by decide) e6 ⟨(congrArg (fun z => some (Value.int z)) (show (0 : Int32) = f6B u_b0 u_h0 u_l0 u_b1 u_h1 u_l1 from Eq.symm (by unfold f6B; exact (if_pos hc21).trans (if_neg hc32)))), N0, rfl⟩ (by decide) (by decide)
  · refine OGo.st (fun _ k => XS.ifYes X4.here hx rfl (pc0 := 21) (pc' := 50) rfl (hb hby d6_21) rfl ((if0 _ _).trans (feq (fun z => hc21 ((olc_eq _ _).mp z))).2) (by decide) (by decide) k) ?_
    show OGo p e below s _ _ _ (T4.setTop (mkF m 50 #[.val (.ref o0), .val (.ref o1), .val (.ref o1)] []))
    refine OGo.st (fun _ k => XS.iconst X4.here hx rfl (hb hby d6_50) k) ?_
    show OGo p e below s _ _ _ (T4.setTop (mkF m 51 #[.val (.ref o0), .val (.ref o1), .val (.ref o1)] [(.int (0 : Int32))]))
    exact oretN X4 hx Bd.notSynchronized (t := .boolean) Bd.returns (by simp) (hb hby d6_51) (z' := (0 : Int32)) (by decide) e4 ⟨(congrArg (fun z => some (Value.int z)) (show (0 : Int32) = f6B u_b0 u_h0 u_l0 u_b1 u_h1 u_l1 from Eq.symm (by unfold f6B; exact if_neg hc21))), N0, rfl⟩ (by decide) (by decide)
theorem ef_6N (m : MethodId) (o0 : Addr) : entryFrame m #[(.ref o0), .null] 3 = mkF m 0 #[.val (.ref o0), .val .null, .unset] [] := by first | (simp [entryFrame, mkF, argsToLocals, Value.category]; done) | rfl
def f6N : Int32 := (0 : Int32)
def Q6N (Z : State) (o0 : Addr) (h0 : Heap) (n0 : Nat) (v : Option Value) (h : Heap) (L : List Loc) : Prop := v = some (.int (f6N)) ∧ Fr n0 L ∧ h = h0
set_option maxRecDepth 65536 in
set_option maxHeartbeats 40000000 in
theorem rm6N (l : Launch) (Z : State) (a0 : Array Value) (hw : ∀ d ∈ tables_1, d.before a0 Z = true) (ws : List Jvm.Cond) (o0 : Addr) (h0 : Heap) (n0 : Nat) (Z0 : n0 ≤ h0.size) :
    MetFree l (⟨"com/example/hazy_set/hazyset/BloomShape", "equals", "(Ljava/lang/Object;)Z"⟩ : MethodName) (head1 (Jvm.Cond.code (⟨"com/example/hazy_set/hazyset/BloomShape", "equals", "(Ljava/lang/Object;)Z"⟩ : MethodName) prog_2_method_19_code 3 (some .boolean) :: ws) ({ frames := 0, cells := 0, slots := 0, locals := 0 } : Room)) (fun a U => a = #[(.ref o0), .null] ∧ Z.Warmed39 U.vm ∧ U.heap = h0) (fun _ _ _ _ _ => True) (fun _ U o U' => ∃ v L, o = .returned v ∧ Q6N Z o0 h0 n0 v U'.heap L ∧ FrameEnd U o U' L ({ frames := 0, cells := 0, slots := 0, locals := 0 } : Room).cells ({ frames := 0, cells := 0, slots := 0, locals := 0 } : Room).slots) := by
  refine MetFree.of_bodySF (plainFor_of_name pn_6) hisR ?_
  intro p e s m args below meth c s₁ Bd hml0 hP hK
  obtain ⟨rfl, hZ, hh⟩ := hP
  have hx := Bd.exec
  have hby := Bd.bytes
  have hml : c.maxLocals = 3 := hml0
  have hown : s.vm.findClass "com/example/hazy_set/hazyset/BloomShape" = some m.cls := findClass_of_methodNamed Bd.named
  have hnm := (name_of_methodNamed Bd.named Bd.method).1
  have X0 : Stand p l e ({ frames := 0, cells := 0, slots := 0, locals := 0 } : Room) s m #[(.ref o0), .null] below meth c s₁ [] 0 0 := Stand.of_body Bd
  have e0 : s₁.heap = h0 := by rw [← hh, Bd.state]; rfl
  have N0 := Fr.nil n0
  show OGo p e below s (Q6N Z o0 h0 n0) ({ frames := 0, cells := 0, slots := 0, locals := 0 } : Room).cells ({ frames := 0, cells := 0, slots := 0, locals := 0 } : Room).slots _
  refine OGo.st (fun _ k => castTop (ef_6N m o0) k) ?_
  show OGo p e below s _ _ _ (s₁.setTop (mkF m 0 #[.val (.ref o0), .val .null, .unset] []))
  refine OGo.st (fun _ k => XS.aloadN X0.here hx rfl (hb hby d6_0) rfl rfl k) ?_
  show OGo p e below s _ _ _ (s₁.setTop (mkF m 1 #[.val (.ref o0), .val .null, .unset] [.null]))
  refine OGo.st (fun _ k => X0.instanceofNull hx (g := (mkF m 1 #[.val (.ref o0), .val .null, .unset] [.null])) rfl rfl (hb hby d6_1) _ k) ?_
  show OGo p e below s _ _ _ (s₁.setTop (mkF m 4 #[.val (.ref o0), .val .null, .unset] [(.int (0 : Int32))]))
  refine OGo.st (fun _ k => XS.ifYes X0.here hx rfl (pc0 := 4) (pc' := 50) rfl (hb hby d6_4) rfl ((if0 _ _).trans (teq (by decide : (0 : Int32) = (0 : Int32))).1) (by decide) (by decide) k) ?_
  show OGo p e below s _ _ _ (s₁.setTop (mkF m 50 #[.val (.ref o0), .val .null, .unset] []))
  refine OGo.st (fun _ k => XS.iconst X0.here hx rfl (hb hby d6_50) k) ?_
  show OGo p e below s _ _ _ (s₁.setTop (mkF m 51 #[.val (.ref o0), .val .null, .unset] [(.int (0 : Int32))]))
  exact oretN X0 hx Bd.notSynchronized (t := .boolean) Bd.returns (by simp) (hb hby d6_51) (z' := (0 : Int32)) (by decide) e0 ⟨(congrArg (fun z => some (Value.int z)) (show (0 : Int32) = f6N from Eq.symm (by unfold f6N; exact rfl))), N0, rfl⟩ (by decide) (by decide)
theorem ef_6G (m : MethodId) (o0 : Addr) (o1 : Addr) : entryFrame m #[(.ref o0), (.ref o1)] 3 = mkF m 0 #[.val (.ref o0), .val (.ref o1), .unset] [] := by first | (simp [entryFrame, mkF, argsToLocals, Value.category]; done) | rfl
def f6G : Int32 := (0 : Int32)
def Q6G (Z : State) (o0 : Addr) (o1 : Addr) (h0 : Heap) (n0 : Nat) (v : Option Value) (h : Heap) (L : List Loc) : Prop := v = some (.int (f6G)) ∧ Fr n0 L ∧ h = h0
set_option maxRecDepth 65536 in
set_option maxHeartbeats 40000000 in
theorem rm6G (l : Launch) (Z : State) (a0 : Array Value) (hw : ∀ d ∈ tables_1, d.before a0 Z = true) (ws : List Jvm.Cond) (o0 : Addr) (o1 : Addr) (h0 : Heap) (n0 : Nat) (Z0 : n0 ≤ h0.size) (E_o1 : Exa Z h0 o1 "java/lang/Long") :
    MetFree l (⟨"com/example/hazy_set/hazyset/BloomShape", "equals", "(Ljava/lang/Object;)Z"⟩ : MethodName) (head1 (Jvm.Cond.code (⟨"com/example/hazy_set/hazyset/BloomShape", "equals", "(Ljava/lang/Object;)Z"⟩ : MethodName) prog_2_method_19_code 3 (some .boolean) :: ws) ({ frames := 0, cells := 0, slots := 0, locals := 0 } : Room)) (fun a U => a = #[(.ref o0), (.ref o1)] ∧ Z.Warmed39 U.vm ∧ U.heap = h0) (fun _ _ _ _ _ => True) (fun _ U o U' => ∃ v L, o = .returned v ∧ Q6G Z o0 o1 h0 n0 v U'.heap L ∧ FrameEnd U o U' L ({ frames := 0, cells := 0, slots := 0, locals := 0 } : Room).cells ({ frames := 0, cells := 0, slots := 0, locals := 0 } : Room).slots) := by
  refine MetFree.of_bodySF (plainFor_of_name pn_6) hisR ?_
  intro p e s m args below meth c s₁ Bd hml0 hP hK
  obtain ⟨rfl, hZ, hh⟩ := hP
  have hx := Bd.exec
  have hby := Bd.bytes
  have hml : c.maxLocals = 3 := hml0
  have hown : s.vm.findClass "com/example/hazy_set/hazyset/BloomShape" = some m.cls := findClass_of_methodNamed Bd.named
  have hnm := (name_of_methodNamed Bd.named Bd.method).1
  have X0 : Stand p l e ({ frames := 0, cells := 0, slots := 0, locals := 0 } : Room) s m #[(.ref o0), (.ref o1)] below meth c s₁ [] 0 0 := Stand.of_body Bd
  have e0 : s₁.heap = h0 := by rw [← hh, Bd.state]; rfl
  have N0 := Fr.nil n0
  show OGo p e below s (Q6G Z o0 o1 h0 n0) ({ frames := 0, cells := 0, slots := 0, locals := 0 } : Room).cells ({ frames := 0, cells := 0, slots := 0, locals := 0 } : Room).slots _
  refine OGo.st (fun _ k => castTop (ef_6G m o0 o1) k) ?_
  show OGo p e below s _ _ _ (s₁.setTop (mkF m 0 #[.val (.ref o0), .val (.ref o1), .unset] []))
  refine OGo.st (fun _ k => XS.aloadN X0.here hx rfl (hb hby d6_0) rfl rfl k) ?_
  show OGo p e below s _ _ _ (s₁.setTop (mkF m 1 #[.val (.ref o0), .val (.ref o1), .unset] [(.ref o1)]))
  obtain ⟨T1, X1, e1, st1⟩ := instNo X0 hx hZ hown (hw _ (List.mem_of_getElem? (i := 51) rfl)) e0 E_o1 (onsNo (hw _ (List.mem_of_getElem? (i := 76) rfl)) (hw _ (List.mem_of_getElem? (i := 9) rfl)) (NS.step (hw _ (List.mem_of_getElem? (i := 76) rfl)) (NS.step (hw _ (List.mem_of_getElem? (i := 77) rfl)) (onsRoot (hw _ (List.mem_of_getElem? (i := 78) rfl)) (hw _ (List.mem_of_getElem? (i := 9) rfl)) (by decide)) (by decide)) (by decide)) (by decide)) (g := (mkF m 1 #[.val (.ref o0), .val (.ref o1), .unset] [(.ref o1)])) rfl rfl (hb hby d6_1)
  refine OGo.st st1 ?_
  show OGo p e below s _ _ _ (T1.setTop (mkF m 4 #[.val (.ref o0), .val (.ref o1), .unset] [(.int (0 : Int32))]))
  refine OGo.st (fun _ k => XS.ifYes X1.here hx rfl (pc0 := 4) (pc' := 50) rfl (hb hby d6_4) rfl ((if0 _ _).trans (teq (by decide : (0 : Int32) = (0 : Int32))).1) (by decide) (by decide) k) ?_
  show OGo p e below s _ _ _ (T1.setTop (mkF m 50 #[.val (.ref o0), .val (.ref o1), .unset] []))
  refine OGo.st (fun _ k => XS.iconst X1.here hx rfl (hb hby d6_50) k) ?_
  show OGo p e below s _ _ _ (T1.setTop (mkF m 51 #[.val (.ref o0), .val (.ref o1), .unset] [(.int (0 : Int32))]))
  exact oretN X1 hx Bd.notSynchronized (t := .boolean) Bd.returns (by simp) (hb hby d6_51) (z' := (0 : Int32)) (by decide) e1 ⟨(congrArg (fun z => some (Value.int z)) (show (0 : Int32) = f6G from Eq.symm (by unfold f6G; exact rfl))), N0, rfl⟩ (by decide) (by decide)
theorem d9_0 : decode jdk_18_method_1_code 0 = .ok (.aload_n 0, 1) := by decide +kernel
theorem d9_1 : decode jdk_18_method_1_code 1 = .ok (.invokespecial 1, 3) := by decide +kernel
theorem d9_4 : decode jdk_18_method_1_code 4 = .ok (.return_, 1) := by decide +kernel
theorem pn_9 : plainName "java/lang/Number" = true := by first | (simp [plainName, overriddenIn]; done) | decide +kernel
theorem ef_9 (m : MethodId) (o0 : Addr) : entryFrame m #[(.ref o0)] 1 = mkF m 0 #[.val (.ref o0)] [] := by first | (simp [entryFrame, mkF, argsToLocals, Value.category]; done) | rfl
def Q9 (Z : State) (o0 : Addr) (h0 : Heap) (n0 : Nat) (v : Option Value) (h : Heap) (L : List Loc) : Prop := v = none ∧ Fr n0 L ∧ h = h0
set_option maxRecDepth 65536 in
set_option maxHeartbeats 40000000 in
theorem rm9 (l : Launch) (Z : State) (a0 : Array Value) (hw : ∀ d ∈ tables_1, d.before a0 Z = true) (ws : List Jvm.Cond) (o0 : Addr) (h0 : Heap) (n0 : Nat) (Z0 : n0 ≤ h0.size) :
    MetFree l (⟨"java/lang/Number", "<init>", "()V"⟩ : MethodName) (head1 (Jvm.Cond.code (⟨"java/lang/Number", "<init>", "()V"⟩ : MethodName) jdk_18_method_1_code 1 none :: ws) ({ frames := 1, cells := 0, slots := 0, locals := 12 } : Room)) (fun a U => a = #[(.ref o0)] ∧ Z.Warmed39 U.vm ∧ U.heap = h0) (fun _ _ _ _ _ => True) (fun _ U o U' => ∃ v L, o = .returned v ∧ Q9 Z o0 h0 n0 v U'.heap L ∧ FrameEnd U o U' L ({ frames := 1, cells := 0, slots := 0, locals := 12 } : Room).cells ({ frames := 1, cells := 0, slots := 0, locals := 12 } : Room).slots) := by
  refine MetFree.of_bodySF (plainFor_of_name pn_9) hisR ?_
  intro p e s m args below meth c s₁ Bd hml0 hP hK
  obtain ⟨rfl, hZ, hh⟩ := hP
  have hx := Bd.exec
  have hby := Bd.bytes
  have hml : c.maxLocals = 1 := hml0
  have hown : s.vm.findClass "java/lang/Number" = some m.cls := findClass_of_methodNamed Bd.named
  have hnm := (name_of_methodNamed Bd.named Bd.method).1
  have X0 : Stand p l e ({ frames := 1, cells := 0, slots := 0, locals := 12 } : Room) s m #[(.ref o0)] below meth c s₁ [] 0 0 := Stand.of_body Bd
  have e0 : s₁.heap = h0 := by rw [← hh, Bd.state]; rfl
  have N0 := Fr.nil n0
  show OGo p e below s (Q9 Z o0 h0 n0) ({ frames := 1, cells := 0, slots := 0, locals := 12 } : Room).cells ({ frames := 1, cells := 0, slots := 0, locals := 12 } : Room).slots _
  refine OGo.st (fun _ k => castTop (ef_9 m o0) k) ?_
  show OGo p e below s _ _ _ (s₁.setTop (mkF m 0 #[.val (.ref o0)] []))
  refine OGo.st (fun _ k => XS.aloadN X0.here hx rfl (hb hby d9_0) rfl rfl k) ?_
  show OGo p e below s _ _ _ (s₁.setTop (mkF m 1 #[.val (.ref o0)] [(.ref o0)]))
  obtain ⟨T1, X1, e1, st1⟩ := initO X0 hx hZ hown (hw _ (List.mem_of_getElem? (i := 73) rfl)) (hw _ (List.mem_of_getElem? (i := 15) rfl)) (hw _ (List.mem_of_getElem? (i := 16) rfl)) e0 (g := (mkF m 1 #[.val (.ref o0)] [(.ref o0)])) rfl (by rw [hml]; rfl) rfl (hb hby d9_1) (by decide) (W := 0) (by show 2 * 0 + _ ≤ _; exact Nat.le_of_eq rfl) (by decide)
  refine OGo.st st1 ?_
  show OGo p e below s _ _ _ (T1.setTop (mkF m 4 #[.val (.ref o0)] []))
  exact oret0 X1 hx Bd.notSynchronized Bd.returns (hb hby d9_4) e1 ⟨rfl, N0, rfl⟩ (by decide) (by decide)
theorem d8_0 : decode jdk_35_method_26_code 0 = .ok (.aload_n 0, 1) := by decide +kernel
theorem d8_1 : decode jdk_35_method_26_code 1 = .ok (.invokespecial 270, 3) := by decide +kernel
theorem d8_4 : decode jdk_35_method_26_code 4 = .ok (.aload_n 0, 1) := by decide +kernel
theorem d8_5 : decode jdk_35_method_26_code 5 = .ok (.lload_n 1, 1) := by decide +kernel
theorem d8_6 : decode jdk_35_method_26_code 6 = .ok (.putfield 273, 3) := by decide +kernel
theorem d8_9 : decode jdk_35_method_26_code 9 = .ok (.return_, 1) := by decide +kernel
theorem pn_8 : plainName "java/lang/Long" = true := by first | (simp [plainName, overriddenIn]; done) | decide +kernel
theorem pd_8_0 : parseMethodDescriptor "()V" = some ⟨[], none⟩ := by decide +kernel
theorem ef_8 (m : MethodId) (o0 : Addr) (q1 : Int64) : entryFrame m #[(.ref o0), (.long q1)] 3 = mkF m 0 #[.val (.ref o0), .val (.long q1), .second] [] := by first | (simp [entryFrame, mkF, argsToLocals, Value.category]; done) | rfl
def Q8 (Z : State) (o0 : Addr) (q1 : Int64) (h0 : Heap) (n0 : Nat) (v : Option Value) (h : Heap) (L : List Loc) : Prop := v = none ∧ Fr n0 L ∧ Keep h0 h [o0]
set_option maxRecDepth 65536 in
set_option maxHeartbeats 40000000 in
theorem rm8 (l : Launch) (Z : State) (a0 : Array Value) (hw : ∀ d ∈ tables_1, d.before a0 Z = true) (ws : List Jvm.Cond) (o0 : Addr) (q1 : Int64) (h0 : Heap) (n0 : Nat) (Z0 : n0 ≤ h0.size) (E_o0 : Exa Z h0 o0 "java/lang/Long") (F_value : Fld Z h0 o0 "java/lang/Long" "value" "J" (.long (0 : Int64))) (g_o0 : n0 ≤ o0) :
    MetFree l (⟨"java/lang/Long", "<init>", "(J)V"⟩ : MethodName) (head1 (Jvm.Cond.code (⟨"java/lang/Long", "<init>", "(J)V"⟩ : MethodName) jdk_35_method_26_code 3 none :: ws) ({ frames := 2, cells := 0, slots := 0, locals := 24 } : Room)) (fun a U => a = #[(.ref o0), (.long q1)] ∧ Z.Warmed39 U.vm ∧ U.heap = h0) (fun _ _ _ _ _ => True) (fun _ U o U' => ∃ v L, o = .returned v ∧ Q8 Z o0 q1 h0 n0 v U'.heap L ∧ FrameEnd U o U' L ({ frames := 2, cells := 0, slots := 0, locals := 24 } : Room).cells ({ frames := 2, cells := 0, slots := 0, locals := 24 } : Room).slots) := by
  refine MetFree.of_bodySF (plainFor_of_name pn_8) hisR ?_
  intro p e s m args below meth c s₁ Bd hml0 hP hK
  obtain ⟨rfl, hZ, hh⟩ := hP
  have hx := Bd.exec
  have hby := Bd.bytes
  have hml : c.maxLocals = 3 := hml0
  have hown : s.vm.findClass "java/lang/Long" = some m.cls := findClass_of_methodNamed Bd.named
  have hnm := (name_of_methodNamed Bd.named Bd.method).1
  have X0 : Stand p l e ({ frames := 2, cells := 0, slots := 0, locals := 24 } : Room) s m #[(.ref o0), (.long q1)] below meth c s₁ [] 0 0 := Stand.of_body Bd
  have e0 : s₁.heap = h0 := by rw [← hh, Bd.state]; rfl
  have N0 := Fr.nil n0
  show OGo p e below s (Q8 Z o0 q1 h0 n0) ({ frames := 2, cells := 0, slots := 0, locals := 24 } : Room).cells ({ frames := 2, cells := 0, slots := 0, locals := 24 } : Room).slots _
  refine OGo.st (fun _ k => castTop (ef_8 m o0 q1) k) ?_
  show OGo p e below s _ _ _ (s₁.setTop (mkF m 0 #[.val (.ref o0), .val (.long q1), .second] []))
  refine OGo.st (fun _ k => XS.aloadN X0.here hx rfl (hb hby d8_0) rfl rfl k) ?_
  show OGo p e below s _ _ _ (s₁.setTop (mkF m 1 #[.val (.ref o0), .val (.long q1), .second] [(.ref o0)]))
  obtain ⟨_, _, ⟨T1, L1, k1, n1⟩, -, X1, ⟨Lc1, hQ1, l1, y1, z1⟩, st1⟩ := X0.specialBack hx (y := (⟨"java/lang/Number", "<init>", "()V"⟩ : MethodName)) rfl hown (mvT hZ (hw _ (List.mem_of_getElem? (i := 67) rfl))) (mvT hZ (hw _ (List.mem_of_getElem? (i := 68) rfl))) (mvT hZ (hw _ (List.mem_of_getElem? (i := 72) rfl))) (by decide) (backOf (W := 0) (rm9 l Z a0 hw [] o0 h0 n0 Z0) hZ (hw _ (List.mem_of_getElem? (i := 72) rfl)) (hw _ (List.mem_of_getElem? (i := 71) rfl)) (by decide) (by decide)) (g := (mkF m 1 #[.val (.ref o0), .val (.long q1), .second] [(.ref o0)])) rfl (by rw [hml]; rfl) (Steps.refl _) (a := o0) (argsL := []) (rest := []) (lenOf pd_8_0 rfl) rfl (by show 2 * 0 + _ ≤ _; exact Nat.le_of_eq rfl) (hb hby d8_1) (fun _ _ => ⟨rfl, e0, (by decide : 0 + 0 ≤ _), (by decide : 0 + 0 ≤ _)⟩)
  dsimp only [Pt.U, Pt.locs, Pt.cells, Pt.slots] at X1 l1 y1 z1 st1 hQ1
  subst l1 y1 z1
  obtain ⟨rfl, N1q, e1⟩ := hQ1
  have N1 := Fr.app N0 N1q
  refine OGo.st (fun _ k => st1.trans k) ?_
  show OGo p e below s _ _ _ (T1.setTop (mkF m 4 #[.val (.ref o0), .val (.long q1), .second] []))
  refine OGo.st (fun _ k => XS.aloadN X1.here hx rfl (hb hby d8_4) rfl rfl k) ?_
  show OGo p e below s _ _ _ (T1.setTop (mkF m 5 #[.val (.ref o0), .val (.long q1), .second] [(.ref o0)]))
  refine OGo.st (fun _ k => XS.lloadN X1.here hx rfl (hb hby d8_5) rfl k) ?_
  show OGo p e below s _ _ _ (T1.setTop (mkF m 6 #[.val (.ref o0), .val (.long q1), .second] [(.long q1), (.ref o0)]))
  obtain ⟨T2, h2, X2, e2, W2, st2⟩ := putF X1 hx hZ hown (host := "") (Or.inl (hw _ (List.mem_of_getElem? (i := 74) rfl))) Via.refl e1 F_value E_o0 (Or.inr ⟨(hw _ (List.mem_of_getElem? (i := 75) rfl)), rfl, hnm⟩) (hw _ (List.mem_of_getElem? (i := 62) rfl)) (ty := .long) (by decide) rfl rfl (g := (mkF m 6 #[.val (.ref o0), .val (.long q1), .second] [(.long q1), (.ref o0)])) rfl rfl (hb hby d8_6)
  refine OGo.st st2 ?_
  have E_o0_w2 := E_o0.wr W2
  have K2 : Keep h0 h2 [o0] := (Keep.refl h0 _).wr W2 (Or.inl (List.mem_of_getElem? (i := 0) rfl))
  have N2 := Fr.snoc X2 N1 g_o0
  have Z2 : n0 ≤ h2.size := Nat.le_trans Z0 (Keep.of_wr W2).1
  have F2 : Fld Z h2 o0 "java/lang/Long" "value" "J" (.long q1) := F_value.same W2
  show OGo p e below s _ _ _ (T2.setTop (mkF m 9 #[.val (.ref o0), .val (.long q1), .second] []))
  exact oret0 X2 hx Bd.notSynchronized Bd.returns (hb hby d8_9) e2 ⟨rfl, N2, K2⟩ (by decide) (by decide)
theorem d7_0 : decode jdk_35_method_24_code 0 = .ok (.sipush 128, 3) := by decide +kernel
theorem d7_3 : decode jdk_35_method_24_code 3 = .ok (.istore_n 2, 1) := by decide +kernel
theorem d7_4 : decode jdk_35_method_24_code 4 = .ok (.lload_n 0, 1) := by decide +kernel
theorem d7_5 : decode jdk_35_method_24_code 5 = .ok (.ldc2_w 230, 3) := by decide +kernel
theorem d7_8 : decode jdk_35_method_24_code 8 = .ok (.lcmp, 1) := by decide +kernel
theorem d7_9 : decode jdk_35_method_24_code 9 = .ok (.ifCond .lt 22, 3) := by decide +kernel
theorem d7_12 : decode jdk_35_method_24_code 12 = .ok (.lload_n 0, 1) := by decide +kernel
theorem d7_13 : decode jdk_35_method_24_code 13 = .ok (.ldc2_w 232, 3) := by decide +kernel
theorem d7_16 : decode jdk_35_method_24_code 16 = .ok (.lcmp, 1) := by decide +kernel
theorem d7_17 : decode jdk_35_method_24_code 17 = .ok (.ifCond .gt 14, 3) := by decide +kernel
theorem d7_20 : decode jdk_35_method_24_code 20 = .ok (.getstatic 234, 3) := by decide +kernel
theorem d7_23 : decode jdk_35_method_24_code 23 = .ok (.lload_n 0, 1) := by decide +kernel
theorem d7_24 : decode jdk_35_method_24_code 24 = .ok (.l2i, 1) := by decide +kernel
theorem d7_25 : decode jdk_35_method_24_code 25 = .ok (.sipush 128, 3) := by decide +kernel
theorem d7_28 : decode jdk_35_method_24_code 28 = .ok (.iadd, 1) := by decide +kernel
theorem d7_29 : decode jdk_35_method_24_code 29 = .ok (.aaload, 1) := by decide +kernel
theorem d7_30 : decode jdk_35_method_24_code 30 = .ok (.areturn, 1) := by decide +kernel
theorem d7_31 : decode jdk_35_method_24_code 31 = .ok (.new 1, 3) := by decide +kernel
theorem d7_34 : decode jdk_35_method_24_code 34 = .ok (.dup, 1) := by decide +kernel
theorem d7_35 : decode jdk_35_method_24_code 35 = .ok (.lload_n 0, 1) := by decide +kernel
theorem d7_36 : decode jdk_35_method_24_code 36 = .ok (.invokespecial 240, 3) := by decide +kernel
theorem d7_39 : decode jdk_35_method_24_code 39 = .ok (.areturn, 1) := by decide +kernel
theorem pn_7 : plainName "java/lang/Long" = true := by first | (simp [plainName, overriddenIn]; done) | decide +kernel
theorem pd_7_0 : parseMethodDescriptor "(J)V" = some ⟨[.long], none⟩ := by decide +kernel
theorem ef_7 (m : MethodId) (q0 : Int64) : entryFrame m #[(.long q0)] 3 = mkF m 0 #[.val (.long q0), .second, .unset] [] := by first | (simp [entryFrame, mkF, argsToLocals, Value.category]; done) | rfl
def Q7 (Z : State) (q0 : Int64) (w_C : Addr) (c_C : Cell) (h0 : Heap) (n0 : Nat) (v : Option Value) (h : Heap) (L : List Loc) : Prop := ∃ (b : Addr), v = some (.ref b) ∧ Fr n0 L ∧ Keep h0 h [] ∧ Exa Z h b "java/lang/Long"
set_option maxRecDepth 65536 in
set_option maxHeartbeats 40000000 in
theorem rm7 (l : Launch) (Z : State) (a0 : Array Value) (hw : ∀ d ∈ tables_1, d.before a0 Z = true) (ws : List Jvm.Cond) (q0 : Int64) (w_C : Addr) (c_C : Cell) (h0 : Heap) (n0 : Nat) (Z0 : n0 ≤ h0.size) (S_C : Sta Z h0 "java/lang/Long$LongCache" "cache" "[Ljava/lang/Long;" (.ref w_C)) (hB : Bxs Z w_C c_C "java/lang/Long" "J" (256 : Int32) (fun j => .long (j - 128).toInt64)) (hKZ : Keep Z.heap h0 []) :
    MetFree l (⟨"java/lang/Long", "valueOf", "(J)Ljava/lang/Long;"⟩ : MethodName) (head1 (Jvm.Cond.code (⟨"java/lang/Long", "valueOf", "(J)Ljava/lang/Long;"⟩ : MethodName) jdk_35_method_24_code 3 (some (.object "java/lang/Long")) :: ws) ({ frames := 3, cells := 1, slots := 1, locals := 39 } : Room)) (fun a U => a = #[(.long q0)] ∧ Z.Warmed39 U.vm ∧ U.heap = h0) (fun _ _ _ _ _ => True) (fun _ U o U' => ∃ v L, o = .returned v ∧ Q7 Z q0 w_C c_C h0 n0 v U'.heap L ∧ FrameEnd U o U' L ({ frames := 3, cells := 1, slots := 1, locals := 39 } : Room).cells ({ frames := 3, cells := 1, slots := 1, locals := 39 } : Room).slots) := by
  refine MetFree.of_bodySF (plainFor_of_name pn_7) hisR ?_
  intro p e s m args below meth c s₁ Bd hml0 hP hK
  obtain ⟨rfl, hZ, hh⟩ := hP
  have hx := Bd.exec
  have hby := Bd.bytes
  have hml : c.maxLocals = 3 := hml0
  have hown : s.vm.findClass "java/lang/Long" = some m.cls := findClass_of_methodNamed Bd.named
  have hnm := (name_of_methodNamed Bd.named Bd.method).1
  have X0 : Stand p l e ({ frames := 3, cells := 1, slots := 1, locals := 39 } : Room) s m #[(.long q0)] below meth c s₁ [] 0 0 := Stand.of_body Bd
  have e0 : s₁.heap = h0 := by rw [← hh, Bd.state]; rfl
  have N0 := Fr.nil n0
  show OGo p e below s (Q7 Z q0 w_C c_C h0 n0) ({ frames := 3, cells := 1, slots := 1, locals := 39 } : Room).cells ({ frames := 3, cells := 1, slots := 1, locals := 39 } : Room).slots _
  refine OGo.st (fun _ k => castTop (ef_7 m q0) k) ?_
  show OGo p e below s _ _ _ (s₁.setTop (mkF m 0 #[.val (.long q0), .second, .unset] []))
  refine OGo.st (fun _ k => XS.sipush X0.here hx rfl (hb hby d7_0) k) ?_
  show OGo p e below s _ _ _ (s₁.setTop (mkF m 3 #[.val (.long q0), .second, .unset] [(.int (128 : Int32))]))
  refine OGo.st (fun _ k => XS.istoreN X0.here hx rfl (hb hby d7_3) rfl (l' := #[.val (.long q0), .second, .val (.int (128 : Int32))]) rfl k) ?_
  show OGo p e below s _ _ _ (s₁.setTop (mkF m 4 #[.val (.long q0), .second, .val (.int (128 : Int32))] []))
  refine OGo.st (fun _ k => XS.lloadN X0.here hx rfl (hb hby d7_4) rfl k) ?_
  show OGo p e below s _ _ _ (s₁.setTop (mkF m 5 #[.val (.long q0), .second, .val (.int (128 : Int32))] [(.long q0)]))
  refine OGo.st (fun _ k => X0.ldc2Long hx hown (mvT hZ (hw _ (List.mem_of_getElem? (i := 59) rfl))) (g := (mkF m 5 #[.val (.long q0), .second, .val (.int (128 : Int32))] [(.long q0)])) rfl (hb hby d7_5) _ k) ?_
  show OGo p e below s _ _ _ (s₁.setTop (mkF m 8 #[.val (.long q0), .second, .val (.int (128 : Int32))] [(.long (-128 : Int64)), (.long q0)]))
  refine OGo.st (fun _ k => XS.lcmp X0.here hx rfl (hb hby d7_8) rfl k) ?_
  show OGo p e below s _ _ _ (s₁.setTop (mkF m 9 #[.val (.long q0), .second, .val (.int (128 : Int32))] [(.int (lcmpW q0 (-128 : Int64)))]))
  by_cases hc9 : q0 < (-128 : Int64)
  · refine OGo.st (fun _ k => XS.ifYes X0.here hx rfl (pc0 := 9) (pc' := 31) rfl (hb hby d7_9) rfl ((if0 _ _).trans (tlt ((olc_lt _ _).mpr hc9)).1) (by decide) (by decide) k) ?_
    show OGo p e below s _ _ _ (s₁.setTop (mkF m 31 #[.val (.long q0), .second, .val (.int (128 : Int32))] []))
    obtain ⟨T1, h1, X1, e1, E1, A1, D1, U1, st1⟩ := newO X0 hx hZ hown (hw _ (List.mem_of_getElem? (i := 61) rfl)) (hw _ (List.mem_of_getElem? (i := 62) rfl)) (hw _ (List.mem_of_getElem? (i := 57) rfl)) e0 (g := (mkF m 31 #[.val (.long q0), .second, .val (.int (128 : Int32))] [])) rfl (hb hby d7_31) (by decide) (by decide)
    obtain ⟨b1, g1⟩ : ∃ z, z = h0.size := ⟨_, rfl⟩
    rw [← g1] at A1 D1 U1 st1
    refine OGo.st st1 ?_
    have S_C_w1 := S_C.ext E1
    have g_b1 : n0 ≤ b1 := Nat.le_trans Z0 (Nat.le_of_eq g1.symm)
    have sz_b1 : h0.size ≤ b1 := Nat.le_trans (Keep.refl h0 []).1 (Nat.le_of_eq g1.symm)
    have K1 : Keep h0 h1 [] := (Keep.refl h0 _).ext E1
    have Z1 : n0 ≤ h1.size := Nat.le_trans Z0 E1.1
    have F_value_b1 : Fld Z h1 b1 "java/lang/Long" "value" "J" (.long (0 : Int64)) := D1 (Or.inr (hw _ (List.mem_of_getElem? (i := 75) rfl))) (ty := .long) (by decide)
    show OGo p e below s _ _ _ (T1.setTop (mkF m 34 #[.val (.long q0), .second, .val (.int (128 : Int32))] [(.ref b1)]))
    refine OGo.st (fun _ k => XS.dup X1.here hx rfl (hb hby d7_34) rfl rfl k) ?_
    show OGo p e below s _ _ _ (T1.setTop (mkF m 35 #[.val (.long q0), .second, .val (.int (128 : Int32))] [(.ref b1), (.ref b1)]))
    refine OGo.st (fun _ k => XS.lloadN X1.here hx rfl (hb hby d7_35) rfl k) ?_
    show OGo p e below s _ _ _ (T1.setTop (mkF m 36 #[.val (.long q0), .second, .val (.int (128 : Int32))] [(.long q0), (.ref b1), (.ref b1)]))
    obtain ⟨_, _, ⟨T2, L2, k2, n2⟩, -, X2, ⟨Lc2, hQ2, l2, y2, z2⟩, st2⟩ := X1.specialBack hx (y := (⟨"java/lang/Long", "<init>", "(J)V"⟩ : MethodName)) rfl hown (mvT hZ (hw _ (List.mem_of_getElem? (i := 63) rfl))) (mvT hZ (hw _ (List.mem_of_getElem? (i := 64) rfl))) (mvT hZ (hw _ (List.mem_of_getElem? (i := 66) rfl))) (by decide) (backOf (W := 1) (rm8 l Z a0 hw [] b1 q0 h1 n0 Z1 A1 F_value_b1 g_b1) hZ (hw _ (List.mem_of_getElem? (i := 66) rfl)) (hw _ (List.mem_of_getElem? (i := 57) rfl)) (by decide) (by decide)) (g := (mkF m 36 #[.val (.long q0), .second, .val (.int (128 : Int32))] [(.long q0), (.ref b1), (.ref b1)])) rfl (by rw [hml]; rfl) (Steps.refl _) (a := b1) (argsL := [(.long q0)]) (rest := [(.ref b1)]) (lenOf pd_7_0 rfl) rfl (by show 2 * 0 + _ ≤ _; exact Nat.le_of_eq rfl) (hb hby d7_36) (fun _ _ => ⟨rfl, e1, (by decide : 1 + 0 ≤ _), (by decide : 1 + 0 ≤ _)⟩)
    dsimp only [Pt.U, Pt.locs, Pt.cells, Pt.slots] at X2 l2 y2 z2 st2 hQ2
    subst l2 y2 z2
    obtain ⟨rfl, N2q, Kc2⟩ := hQ2
    have S_C_w2 := osta_keep S_C_w1 Kc2 (osta_exa A1 (fun _ _ _ _ => nin0))
    have A1_w2 := A1.keep Kc2
    have K2 : Keep h0 T2.heap [] := (K1).trans Kc2 (allS (Or.inr sz_b1) all0)
    have Z2 : n0 ≤ T2.heap.size := Nat.le_trans Z1 Kc2.1
    have N2 := Fr.app N0 N2q
    refine OGo.st (fun _ k => st2.trans k) ?_
    show OGo p e below s _ _ _ (T2.setTop (mkF m 39 #[.val (.long q0), .second, .val (.int (128 : Int32))] [(.ref b1)]))
    exact oretA X2 hx Bd.notSynchronized Bd.returns rfl rfl (hb hby d7_39) rfl ⟨b1, rfl, N2, K2, A1_w2⟩ (by decide) (by decide)
  · refine OGo.st (fun _ k => XS.ifNo X0.here hx rfl (hb hby d7_9) rfl ((if0 _ _).trans (flt (fun z => hc9 ((olc_lt _ _).mp z))).1) k) ?_
    show OGo p e below s _ _ _ (s₁.setTop (mkF m 12 #[.val (.long q0), .second, .val (.int (128 : Int32))] []))
    refine OGo.st (fun _ k => XS.lloadN X0.here hx rfl (hb hby d7_12) rfl k) ?_
    show OGo p e below s _ _ _ (s₁.setTop (mkF m 13 #[.val (.long q0), .second, .val (.int (128 : Int32))] [(.long q0)]))
    refine OGo.st (fun _ k => X0.ldc2Long hx hown (mvT hZ (hw _ (List.mem_of_getElem? (i := 60) rfl))) (g := (mkF m 13 #[.val (.long q0), .second, .val (.int (128 : Int32))] [(.long q0)])) rfl (hb hby d7_13) _ k) ?_
    show OGo p e below s _ _ _ (s₁.setTop (mkF m 16 #[.val (.long q0), .second, .val (.int (128 : Int32))] [(.long (127 : Int64)), (.long q0)]))
    refine OGo.st (fun _ k => XS.lcmp X0.here hx rfl (hb hby d7_16) rfl k) ?_
    show OGo p e below s _ _ _ (s₁.setTop (mkF m 17 #[.val (.long q0), .second, .val (.int (128 : Int32))] [(.int (lcmpW q0 (127 : Int64)))]))
    by_cases hc17 : (127 : Int64) < q0
    · refine OGo.st (fun _ k => XS.ifYes X0.here hx rfl (pc0 := 17) (pc' := 31) rfl (hb hby d7_17) rfl ((if0 _ _).trans (tlt ((olc_gt _ _).mpr hc17)).2.2.1) (by decide) (by decide) k) ?_
      show OGo p e below s _ _ _ (s₁.setTop (mkF m 31 #[.val (.long q0), .second, .val (.int (128 : Int32))] []))
      obtain ⟨T3, h3, X3, e3, E3, A3, D3, U3, st3⟩ := newO X0 hx hZ hown (hw _ (List.mem_of_getElem? (i := 61) rfl)) (hw _ (List.mem_of_getElem? (i := 62) rfl)) (hw _ (List.mem_of_getElem? (i := 57) rfl)) e0 (g := (mkF m 31 #[.val (.long q0), .second, .val (.int (128 : Int32))] [])) rfl (hb hby d7_31) (by decide) (by decide)
      obtain ⟨b3, g3⟩ : ∃ z, z = h0.size := ⟨_, rfl⟩
      rw [← g3] at A3 D3 U3 st3
      refine OGo.st st3 ?_
      have S_C_w3 := S_C.ext E3
      have g_b3 : n0 ≤ b3 := Nat.le_trans Z0 (Nat.le_of_eq g3.symm)
      have sz_b3 : h0.size ≤ b3 := Nat.le_trans (Keep.refl h0 []).1 (Nat.le_of_eq g3.symm)
      have K3 : Keep h0 h3 [] := (Keep.refl h0 _).ext E3
      have Z3 : n0 ≤ h3.size := Nat.le_trans Z0 E3.1
      have F_value_b3 : Fld Z h3 b3 "java/lang/Long" "value" "J" (.long (0 : Int64)) := D3 (Or.inr (hw _ (List.mem_of_getElem? (i := 75) rfl))) (ty := .long) (by decide)
      show OGo p e below s _ _ _ (T3.setTop (mkF m 34 #[.val (.long q0), .second, .val (.int (128 : Int32))] [(.ref b3)]))
      refine OGo.st (fun _ k => XS.dup X3.here hx rfl (hb hby d7_34) rfl rfl k) ?_
      show OGo p e below s _ _ _ (T3.setTop (mkF m 35 #[.val (.long q0), .second, .val (.int (128 : Int32))] [(.ref b3), (.ref b3)]))
      refine OGo.st (fun _ k => XS.lloadN X3.here hx rfl (hb hby d7_35) rfl k) ?_
      show OGo p e below s _ _ _ (T3.setTop (mkF m 36 #[.val (.long q0), .second, .val (.int (128 : Int32))] [(.long q0), (.ref b3), (.ref b3)]))
      obtain ⟨_, _, ⟨T4, L4, k4, n4⟩, -, X4, ⟨Lc4, hQ4, l4, y4, z4⟩, st4⟩ := X3.specialBack hx (y := (⟨"java/lang/Long", "<init>", "(J)V"⟩ : MethodName)) rfl hown (mvT hZ (hw _ (List.mem_of_getElem? (i := 63) rfl))) (mvT hZ (hw _ (List.mem_of_getElem? (i := 64) rfl))) (mvT hZ (hw _ (List.mem_of_getElem? (i := 66) rfl))) (by decide) (backOf (W := 1) (rm8 l Z a0 hw [] b3 q0 h3 n0 Z3 A3 F_value_b3 g_b3) hZ (hw _ (List.mem_of_getElem? (i := 66) rfl)) (hw _ (List.mem_of_getElem? (i := 57) rfl)) (by decide) (by decide)) (g := (mkF m 36 #[.val (.long q0), .second, .val (.int (128 : Int32))] [(.long q0), (.ref b3), (.ref b3)])) rfl (by rw [hml]; rfl) (Steps.refl _) (a := b3) (argsL := [(.long q0)]) (rest := [(.ref b3)]) (lenOf pd_7_0 rfl) rfl (by show 2 * 0 + _ ≤ _; exact Nat.le_of_eq rfl) (hb hby d7_36) (fun _ _ => ⟨rfl, e3, (by decide : 1 + 0 ≤ _), (by decide : 1 + 0 ≤ _)⟩)
      dsimp only [Pt.U, Pt.locs, Pt.cells, Pt.slots] at X4 l4 y4 z4 st4 hQ4
      subst l4 y4 z4
      obtain ⟨rfl, N4q, Kc4⟩ := hQ4
      have S_C_w4 := osta_keep S_C_w3 Kc4 (osta_exa A3 (fun _ _ _ _ => nin0))
      have A3_w4 := A3.keep Kc4
      have K4 : Keep h0 T4.heap [] := (K3).trans Kc4 (allS (Or.inr sz_b3) all0)
      have Z4 : n0 ≤ T4.heap.size := Nat.le_trans Z3 Kc4.1
      have N4 := Fr.app N0 N4q
      refine OGo.st (fun _ k => st4.trans k) ?_
      show OGo p e below s _ _ _ (T4.setTop (mkF m 39 #[.val (.long q0), .second, .val (.int (128 : Int32))] [(.ref b3)]))
      exact oretA X4 hx Bd.notSynchronized Bd.returns rfl rfl (hb hby d7_39) rfl ⟨b3, rfl, N4, K4, A3_w4⟩ (by decide) (by decide)
    · refine OGo.st (fun _ k => XS.ifNo X0.here hx rfl (hb hby d7_17) rfl ((if0 _ _).trans (flt (fun z => hc17 ((olc_gt _ _).mp z))).2.2.1) k) ?_
      show OGo p e below s _ _ _ (s₁.setTop (mkF m 20 #[.val (.long q0), .second, .val (.int (128 : Int32))] []))
      obtain ⟨T5, X5, e5, st5⟩ := getS2 X0 hx hZ hown (host := "") (Or.inl (hw _ (List.mem_of_getElem? (i := 79) rfl))) Via.refl e0 S_C (g := (mkF m 20 #[.val (.long q0), .second, .val (.int (128 : Int32))] [])) rfl (hb hby d7_20)
      refine OGo.st st5 ?_
      show OGo p e below s _ _ _ (T5.setTop (mkF m 23 #[.val (.long q0), .second, .val (.int (128 : Int32))] [(.ref w_C)]))
      refine OGo.st (fun _ k => XS.lloadN X5.here hx rfl (hb hby d7_23) rfl k) ?_
      show OGo p e below s _ _ _ (T5.setTop (mkF m 24 #[.val (.long q0), .second, .val (.int (128 : Int32))] [(.long q0), (.ref w_C)]))
      refine OGo.st (fun _ k => XS.l2i X5.here hx rfl (hb hby d7_24) rfl k) ?_
      show OGo p e below s _ _ _ (T5.setTop (mkF m 25 #[.val (.long q0), .second, .val (.int (128 : Int32))] [(.int (q0.toInt32)), (.ref w_C)]))
      refine OGo.st (fun _ k => XS.sipush X5.here hx rfl (hb hby d7_25) k) ?_
      show OGo p e below s _ _ _ (T5.setTop (mkF m 28 #[.val (.long q0), .second, .val (.int (128 : Int32))] [(.int (128 : Int32)), (.int (q0.toInt32)), (.ref w_C)]))
      refine OGo.st (fun _ k => XS.iadd X5.here hx rfl (hb hby d7_28) rfl k) ?_
      show OGo p e below s _ _ _ (T5.setTop (mkF m 29 #[.val (.long q0), .second, .val (.int (128 : Int32))] [(.int ((q0.toInt32) + (128 : Int32))), (.ref w_C)]))
      obtain ⟨Ab6, Sb6, -, Gb6⟩ := id hB
      have hin6 : ¬ (((q0.toInt32) + (128 : Int32)) < 0 ∨ c_C.slots.size ≤ (((q0.toInt32) + (128 : Int32))).toNatClampNeg) := inb_of Sb6 (own_inb hc9 hc17)
      obtain ⟨bx6, hat6, Eb6, -⟩ := Gb6 _ hin6
      have Ar6 : Arr Z h0 w_C c_C (.object "java/lang/Long") := ⟨hKZ.2.1 w_C c_C Ab6.1 nin0, Ab6.2⟩
      have Ex6 := Eb6.keep hKZ
      refine OGo.st (fun _ k => X5.aaload hx (j := ((q0.toInt32) + (128 : Int32))) (v := .ref bx6) (by rw [e5]; exact Ar6.1) (State.isArrayOf_alike hZ.alike Ar6.2.1) rfl Ar6.2.2 hin6 hat6 (g := (mkF m 29 #[.val (.long q0), .second, .val (.int (128 : Int32))] [(.int ((q0.toInt32) + (128 : Int32))), (.ref w_C)])) rfl rfl (hb hby d7_29) _ k) ?_
      show OGo p e below s _ _ _ (T5.setTop (mkF m 30 #[.val (.long q0), .second, .val (.int (128 : Int32))] [(.ref bx6)]))
      exact oretA X5 hx Bd.notSynchronized Bd.returns rfl rfl (hb hby d7_30) e5 ⟨bx6, rfl, N0, (Keep.refl _ _), Ex6⟩ (by decide) (by decide)
theorem pn_0 : plainName "com/example/hazy_set/hazyset/BloomShapeEqualsPinLaw" = true := by first | (simp [plainName, overriddenIn]; done) | decide +kernel
theorem pd_0_0 : parseMethodDescriptor "(II)I" = some ⟨[.int, .int], some .int⟩ := by decide +kernel
theorem pd_0_1 : parseMethodDescriptor "(JILcom/example/hazy_set/hazyset/BloomShape$Layout;)V" = some ⟨[.long, .int, (.object "com/example/hazy_set/hazyset/BloomShape$Layout")], none⟩ := by decide +kernel
theorem pd_0_2 : parseMethodDescriptor "(Ljava/lang/Object;)Z" = some ⟨[(.object "java/lang/Object")], some .boolean⟩ := by decide +kernel
theorem pd_0_3 : parseMethodDescriptor "(J)Ljava/lang/Long;" = some ⟨[.long], some (.object "java/lang/Long")⟩ := by decide +kernel
theorem ef_0 (m : MethodId) (q0 : Int64) (q1 : Int64) (p2 : Int32) (p3 : Int32) (p4 : Int32) : entryFrame m #[(.long q0), (.long q1), (.int p2), (.int p3), (.int p4)] maxLocals = mkF m 0 #[.val (.long q0), .second, .val (.long q1), .second, .val (.int p2), .val (.int p3), .val (.int p4), .unset, .unset, .unset, .unset, .unset, .unset, .unset, .unset, .unset, .unset, .unset] [] := by first | (simp [entryFrame, mkF, argsToLocals, Value.category, maxLocals]; done) | rfl
def v0_0 (q0 : Int64) (q1 : Int64) (p2 : Int32) (p3 : Int32) (p4 : Int32) (w_LINED : Addr) (w_SCATTERED : Addr) (w_C : Addr) (c_C : Cell) (j32_0 : Int32) (j46_0 : Int64) : Int32 := (((p4.toUInt32 >>> ((4 : Int32) &&& 31).toUInt32).toInt32) &&& (3 : Int32))
def f0_46 (q0 : Int64) (q1 : Int64) (p2 : Int32) (p3 : Int32) (p4 : Int32) (w_LINED : Addr) (w_SCATTERED : Addr) (w_C : Addr) (c_C : Cell) (j32_0 : Int32) (j46_0 : Int64) : Int32 := (if (p4 &&& (4 : Int32)) = (0 : Int32) then (if (p4 &&& (8 : Int32)) = (0 : Int32) then (if (v0_0 q0 q1 p2 p3 p4 w_LINED w_SCATTERED w_C c_C j32_0 j46_0) = (0 : Int32) then (if q0 = j46_0 then (if (f1 (1 : Int32) (p2 &&& (2147483647 : Int32))) = j32_0 then (if (f6B q0 (f1 (1 : Int32) (p2 &&& (2147483647 : Int32))) w_SCATTERED j46_0 j32_0 w_SCATTERED) = (1 : Int32) then (1 : Int32) else (0 : Int32)) else (if (f6B q0 (f1 (1 : Int32) (p2 &&& (2147483647 : Int32))) w_SCATTERED j46_0 j32_0 w_SCATTERED) = (0 : Int32) then (1 : Int32) else (0 : Int32))) else (if (f6B q0 (f1 (1 : Int32) (p2 &&& (2147483647 : Int32))) w_SCATTERED j46_0 j32_0 w_SCATTERED) = (0 : Int32) then (1 : Int32) else (0 : Int32))) else (if (v0_0 q0 q1 p2 p3 p4 w_LINED w_SCATTERED w_C c_C j32_0 j46_0) = (1 : Int32) then (1 : Int32) else (if (v0_0 q0 q1 p2 p3 p4 w_LINED w_SCATTERED w_C c_C j32_0 j46_0) = (2 : Int32) then (1 : Int32) else (if (f6B q0 (f1 (1 : Int32) (p2 &&& (2147483647 : Int32))) w_SCATTERED q0 (f1 (1 : Int32) (p2 &&& (2147483647 : Int32))) w_SCATTERED) = (1 : Int32) then (1 : Int32) else (0 : Int32))))) else (if (v0_0 q0 q1 p2 p3 p4 w_LINED w_SCATTERED w_C c_C j32_0 j46_0) = (0 : Int32) then (if q0 = j46_0 then (if (f1 (1 : Int32) (p2 &&& (2147483647 : Int32))) = j32_0 then (if (f6B q0 (f1 (1 : Int32) (p2 &&& (2147483647 : Int32))) w_SCATTERED j46_0 j32_0 w_LINED) = (0 : Int32) then (1 : Int32) else (0 : Int32)) else (if (f6B q0 (f1 (1 : Int32) (p2 &&& (2147483647 : Int32))) w_SCATTERED j46_0 j32_0 w_LINED) = (0 : Int32) then (1 : Int32) else (0 : Int32))) else (if (f6B q0 (f1 (1 : Int32) (p2 &&& (2147483647 : Int32))) w_SCATTERED j46_0 j32_0 w_LINED) = (0 : Int32) then (1 : Int32) else (0 : Int32))) else (if (v0_0 q0 q1 p2 p3 p4 w_LINED w_SCATTERED w_C c_C j32_0 j46_0) = (1 : Int32) then (1 : Int32) else (if (v0_0 q0 q1 p2 p3 p4 w_LINED w_SCATTERED w_C c_C j32_0 j46_0) = (2 : Int32) then (1 : Int32) else (if (f6B q0 (f1 (1 : Int32) (p2 &&& (2147483647 : Int32))) w_SCATTERED q0 (f1 (1 : Int32) (p2 &&& (2147483647 : Int32))) w_SCATTERED) = (1 : Int32) then (1 : Int32) else (0 : Int32)))))) else (if (p4 &&& (8 : Int32)) = (0 : Int32) then (if (v0_0 q0 q1 p2 p3 p4 w_LINED w_SCATTERED w_C c_C j32_0 j46_0) = (0 : Int32) then (if q0 = j46_0 then (if (f1 (1 : Int32) (p2 &&& (2147483647 : Int32))) = j32_0 then (if (f6B q0 (f1 (1 : Int32) (p2 &&& (2147483647 : Int32))) w_LINED j46_0 j32_0 w_SCATTERED) = (0 : Int32) then (1 : Int32) else (0 : Int32)) else (if (f6B q0 (f1 (1 : Int32) (p2 &&& (2147483647 : Int32))) w_LINED j46_0 j32_0 w_SCATTERED) = (0 : Int32) then (1 : Int32) else (0 : Int32))) else (if (f6B q0 (f1 (1 : Int32) (p2 &&& (2147483647 : Int32))) w_LINED j46_0 j32_0 w_SCATTERED) = (0 : Int32) then (1 : Int32) else (0 : Int32))) else (if (v0_0 q0 q1 p2 p3 p4 w_LINED w_SCATTERED w_C c_C j32_0 j46_0) = (1 : Int32) then (1 : Int32) else (if (v0_0 q0 q1 p2 p3 p4 w_LINED w_SCATTERED w_C c_C j32_0 j46_0) = (2 : Int32) then (1 : Int32) else (if (f6B q0 (f1 (1 : Int32) (p2 &&& (2147483647 : Int32))) w_LINED q0 (f1 (1 : Int32) (p2 &&& (2147483647 : Int32))) w_LINED) = (1 : Int32) then (1 : Int32) else (0 : Int32))))) else (if (v0_0 q0 q1 p2 p3 p4 w_LINED w_SCATTERED w_C c_C j32_0 j46_0) = (0 : Int32) then (if q0 = j46_0 then (if (f1 (1 : Int32) (p2 &&& (2147483647 : Int32))) = j32_0 then (if (f6B q0 (f1 (1 : Int32) (p2 &&& (2147483647 : Int32))) w_LINED j46_0 j32_0 w_LINED) = (1 : Int32) then (1 : Int32) else (0 : Int32)) else (if (f6B q0 (f1 (1 : Int32) (p2 &&& (2147483647 : Int32))) w_LINED j46_0 j32_0 w_LINED) = (0 : Int32) then (1 : Int32) else (0 : Int32))) else (if (f6B q0 (f1 (1 : Int32) (p2 &&& (2147483647 : Int32))) w_LINED j46_0 j32_0 w_LINED) = (0 : Int32) then (1 : Int32) else (0 : Int32))) else (if (v0_0 q0 q1 p2 p3 p4 w_LINED w_SCATTERED w_C c_C j32_0 j46_0) = (1 : Int32) then (1 : Int32) else (if (v0_0 q0 q1 p2 p3 p4 w_LINED w_SCATTERED w_C c_C j32_0 j46_0) = (2 : Int32) then (1 : Int32) else (if (f6B q0 (f1 (1 : Int32) (p2 &&& (2147483647 : Int32))) w_LINED q0 (f1 (1 : Int32) (p2 &&& (2147483647 : Int32))) w_LINED) = (1 : Int32) then (1 : Int32) else (0 : Int32)))))))
def f0_32 (q0 : Int64) (q1 : Int64) (p2 : Int32) (p3 : Int32) (p4 : Int32) (w_LINED : Addr) (w_SCATTERED : Addr) (w_C : Addr) (c_C : Cell) (j32_0 : Int32) : Int32 := (if (p4 &&& (1 : Int32)) = (0 : Int32) then (f0_46 q0 q1 p2 p3 p4 w_LINED w_SCATTERED w_C c_C j32_0 q1) else (f0_46 q0 q1 p2 p3 p4 w_LINED w_SCATTERED w_C c_C j32_0 q0))
def f0 (q0 : Int64) (q1 : Int64) (p2 : Int32) (p3 : Int32) (p4 : Int32) (w_LINED : Addr) (w_SCATTERED : Addr) (w_C : Addr) (c_C : Cell) : Int32 := (if (p4 &&& (2 : Int32)) = (0 : Int32) then (f0_32 q0 q1 p2 p3 p4 w_LINED w_SCATTERED w_C c_C (f1 (1 : Int32) (p3 &&& (2147483647 : Int32)))) else (f0_32 q0 q1 p2 p3 p4 w_LINED w_SCATTERED w_C c_C (f1 (1 : Int32) (p2 &&& (2147483647 : Int32)))))
def Q0 (Z : State) (q0 : Int64) (q1 : Int64) (p2 : Int32) (p3 : Int32) (p4 : Int32) (w_LINED : Addr) (w_SCATTERED : Addr) (w_C : Addr) (c_C : Cell) (h0 : Heap) (n0 : Nat) (v : Option Value) (h : Heap) (L : List Loc) : Prop := v = some (.int (f0 q0 q1 p2 p3 p4 w_LINED w_SCATTERED w_C c_C)) ∧ Fr n0 L
set_option maxRecDepth 65536 in
set_option maxHeartbeats 40000000 in
theorem rm0 (l : Launch) (Z : State) (a0 : Array Value) (hw : ∀ d ∈ tables_1, d.before a0 Z = true) (ws : List Jvm.Cond) (q0 : Int64) (q1 : Int64) (p2 : Int32) (p3 : Int32) (p4 : Int32) (w_LINED : Addr) (w_SCATTERED : Addr) (w_C : Addr) (c_C : Cell) (h0 : Heap) (n0 : Nat) (Z0 : n0 ≤ h0.size) (S_LINED : Sta Z h0 "com/example/hazy_set/hazyset/BloomShape$Layout" "LINED" "Lcom/example/hazy_set/hazyset/BloomShape$Layout;" (.ref w_LINED)) (S_SCATTERED : Sta Z h0 "com/example/hazy_set/hazyset/BloomShape$Layout" "SCATTERED" "Lcom/example/hazy_set/hazyset/BloomShape$Layout;" (.ref w_SCATTERED)) (E_LINED : Exa Z h0 w_LINED "com/example/hazy_set/hazyset/BloomShape$Layout") (E_SCATTERED : Exa Z h0 w_SCATTERED "com/example/hazy_set/hazyset/BloomShape$Layout") (O_LINED_lineShift : Fld Z h0 w_LINED "com/example/hazy_set/hazyset/BloomShape$Layout" "lineShift" "I" (.int (9 : Int32))) (O_LINED_ordinal : Fld Z h0 w_LINED "java/lang/Enum" "ordinal" "I" (.int (1 : Int32))) (O_SCATTERED_lineShift : Fld Z h0 w_SCATTERED "com/example/hazy_set/hazyset/BloomShape$Layout" "lineShift" "I" (.int (0 : Int32))) (O_SCATTERED_ordinal : Fld Z h0 w_SCATTERED "java/lang/Enum" "ordinal" "I" (.int (0 : Int32))) (S_C : Sta Z h0 "java/lang/Long$LongCache" "cache" "[Ljava/lang/Long;" (.ref w_C)) (ne_LS : w_LINED ≠ w_SCATTERED) (hB : Bxs Z w_C c_C "java/lang/Long" "J" (256 : Int32) (fun j => .long (j - 128).toInt64)) (hZh : Z.heap = h0) :
    MetFree l x (head1 (Jvm.Cond.code x code maxLocals ret :: ws) room_1) (fun a U => a = #[(.long q0), (.long q1), (.int p2), (.int p3), (.int p4)] ∧ Z.Warmed39 U.vm ∧ U.heap = h0) (fun _ _ _ _ _ => True) (fun _ U o U' => ∃ v L, o = .returned v ∧ Q0 Z q0 q1 p2 p3 p4 w_LINED w_SCATTERED w_C c_C h0 n0 v U'.heap L ∧ FrameEnd U o U' L room_1.cells room_1.slots) := by
  refine MetFree.of_bodySF (plainFor_of_name pn_0) hisR ?_
  intro p e s m args below meth c s₁ Bd hml0 hP hK
  obtain ⟨rfl, hZ, hh⟩ := hP
  have hx := Bd.exec
  have hby := Bd.bytes
  have hml : c.maxLocals = 18 := hml0
  have hown : s.vm.findClass "com/example/hazy_set/hazyset/BloomShapeEqualsPinLaw" = some m.cls := findClass_of_methodNamed Bd.named
  have hnm := (name_of_methodNamed Bd.named Bd.method).1
  have X0 : Stand p l e room_1 s m #[(.long q0), (.long q1), (.int p2), (.int p3), (.int p4)] below meth c s₁ [] 0 0 := Stand.of_body Bd
  have e0 : s₁.heap = h0 := by rw [← hh, Bd.state]; rfl
  have N0 := Fr.nil n0
  show OGo p e below s (Q0 Z q0 q1 p2 p3 p4 w_LINED w_SCATTERED w_C c_C h0 n0) room_1.cells room_1.slots _
  refine OGo.st (fun _ k => castTop (ef_0 m q0 q1 p2 p3 p4) k) ?_
  show OGo p e below s _ _ _ (s₁.setTop (mkF m 0 #[.val (.long q0), .second, .val (.long q1), .second, .val (.int p2), .val (.int p3), .val (.int p4), .unset, .unset, .unset, .unset, .unset, .unset, .unset, .unset, .unset, .unset, .unset] []))
  refine OGo.st (fun _ k => XS.iconst X0.here hx rfl (hb hby at_0) k) ?_
  show OGo p e below s _ _ _ (s₁.setTop (mkF m 1 #[.val (.long q0), .second, .val (.long q1), .second, .val (.int p2), .val (.int p3), .val (.int p4), .unset, .unset, .unset, .unset, .unset, .unset, .unset, .unset, .unset, .unset, .unset] [(.int (1 : Int32))]))
  refine OGo.st (fun _ k => XS.iload X0.here hx rfl (hb hby at_1) rfl k) ?_
  show OGo p e below s _ _ _ (s₁.setTop (mkF m 3 #[.val (.long q0), .second, .val (.long q1), .second, .val (.int p2), .val (.int p3), .val (.int p4), .unset, .unset, .unset, .unset, .unset, .unset, .unset, .unset, .unset, .unset, .unset] [(.int p2), (.int (1 : Int32))]))
  refine OGo.st (fun _ k => X0.ldcInt hx hown (mvT hZ (hw _ (List.mem_of_getElem? (i := 0) rfl))) (g := (mkF m 3 #[.val (.long q0), .second, .val (.long q1), .second, .val (.int p2), .val (.int p3), .val (.int p4), .unset, .unset, .unset, .unset, .unset, .unset, .unset, .unset, .unset, .unset, .unset] [(.int p2), (.int (1 : Int32))])) rfl (hb hby at_3) _ k) ?_
  show OGo p e below s _ _ _ (s₁.setTop (mkF m 5 #[.val (.long q0), .second, .val (.long q1), .second, .val (.int p2), .val (.int p3), .val (.int p4), .unset, .unset, .unset, .unset, .unset, .unset, .unset, .unset, .unset, .unset, .unset] [(.int (2147483647 : Int32)), (.int p2), (.int (1 : Int32))]))
  refine OGo.st (fun _ k => XS.iand X0.here hx rfl (hb hby at_5) rfl k) ?_
  show OGo p e below s _ _ _ (s₁.setTop (mkF m 6 #[.val (.long q0), .second, .val (.long q1), .second, .val (.int p2), .val (.int p3), .val (.int p4), .unset, .unset, .unset, .unset, .unset, .unset, .unset, .unset, .unset, .unset, .unset] [(.int (p2 &&& (2147483647 : Int32))), (.int (1 : Int32))]))
  obtain ⟨_, _, ⟨T1, L1, k1, n1⟩, -, X1, ⟨Lc1, hQ1, l1, y1, z1⟩, st1⟩ := Jvm.LawKit.callS X0 hx (y := (⟨"java/lang/Math", "max", "(II)I"⟩ : MethodName)) hown (mvT hZ (hw _ (List.mem_of_getElem? (i := 1) rfl))) (mvT hZ (hw _ (List.mem_of_getElem? (i := 2) rfl))) (mvT hZ (hw _ (List.mem_of_getElem? (i := 3) rfl))) (mvT hZ (hw _ (List.mem_of_getElem? (i := 4) rfl))) (by decide) (backOf (W := 0) (rm1 l Z a0 hw [] (1 : Int32) (p2 &&& (2147483647 : Int32)) h0 n0 Z0) hZ (hw _ (List.mem_of_getElem? (i := 4) rfl)) (hw _ (List.mem_of_getElem? (i := 3) rfl)) (by decide) (by decide)) (g := (mkF m 6 #[.val (.long q0), .second, .val (.long q1), .second, .val (.int p2), .val (.int p3), .val (.int p4), .unset, .unset, .unset, .unset, .unset, .unset, .unset, .unset, .unset, .unset, .unset] [(.int (p2 &&& (2147483647 : Int32))), (.int (1 : Int32))])) rfl (by rw [hml]; rfl) (argsL := [(.int (1 : Int32)), (.int (p2 &&& (2147483647 : Int32)))]) (rest := []) (lenOf pd_0_0 rfl) rfl (by show 2 * 0 + _ ≤ _; exact Nat.le_of_eq rfl) (hb hby at_6) (fun _ _ => ⟨rfl, e0, (by decide : 0 + 0 ≤ _), (by decide : 0 + 0 ≤ _)⟩)
  dsimp only [Pt.U, Pt.locs, Pt.cells, Pt.slots] at X1 l1 y1 z1 st1 hQ1
  subst l1 y1 z1
  obtain ⟨rfl, N1q, e1⟩ := hQ1
  have N1 := Fr.app N0 N1q
  refine OGo.st st1 ?_
  show OGo p e below s _ _ _ (T1.setTop (mkF m 9 #[.val (.long q0), .second, .val (.long q1), .second, .val (.int p2), .val (.int p3), .val (.int p4), .unset, .unset, .unset, .unset, .unset, .unset, .unset, .unset, .unset, .unset, .unset] [(.int (f1 (1 : Int32) (p2 &&& (2147483647 : Int32))))]))
  refine OGo.st (fun _ k => XS.istore X1.here hx rfl (hb hby at_9) rfl (l' := #[.val (.long q0), .second, .val (.long q1), .second, .val (.int p2), .val (.int p3), .val (.int p4), .val (.int (f1 (1 : Int32) (p2 &&& (2147483647 : Int32)))), .unset, .unset, .unset, .unset, .unset, .unset, .unset, .unset, .unset, .unset]) rfl k) ?_
  show OGo p e below s _ _ _ (T1.setTop (mkF m 11 #[.val (.long q0), .second, .val (.long q1), .second, .val (.int p2), .val (.int p3), .val (.int p4), .val (.int (f1 (1 : Int32) (p2 &&& (2147483647 : Int32)))), .unset, .unset, .unset, .unset, .unset, .unset, .unset, .unset, .unset, .unset] []))
  refine OGo.st (fun _ k => XS.iload X1.here hx rfl (hb hby at_11) rfl k) ?_
  show OGo p e below s _ _ _ (T1.setTop (mkF m 13 #[.val (.long q0), .second, .val (.long q1), .second, .val (.int p2), .val (.int p3), .val (.int p4), .val (.int (f1 (1 : Int32) (p2 &&& (2147483647 : Int32)))), .unset, .unset, .unset, .unset, .unset, .unset, .unset, .unset, .unset, .unset] [(.int p4)]))
  refine OGo.st (fun _ k => XS.iconst X1.here hx rfl (hb hby at_13) k) ?_
  show OGo p e below s _ _ _ (T1.setTop (mkF m 14 #[.val (.long q0), .second, .val (.long q1), .second, .val (.int p2), .val (.int p3), .val (.int p4), .val (.int (f1 (1 : Int32) (p2 &&& (2147483647 : Int32)))), .unset, .unset, .unset, .unset, .unset, .unset, .unset, .unset, .unset, .unset] [(.int (2 : Int32)), (.int p4)]))
  refine OGo.st (fun _ k => XS.iand X1.here hx rfl (hb hby at_14) rfl k) ?_
  show OGo p e below s _ _ _ (T1.setTop (mkF m 15 #[.val (.long q0), .second, .val (.long q1), .second, .val (.int p2), .val (.int p3), .val (.int p4), .val (.int (f1 (1 : Int32) (p2 &&& (2147483647 : Int32)))), .unset, .unset, .unset, .unset, .unset, .unset, .unset, .unset, .unset, .unset] [(.int (p4 &&& (2 : Int32)))]))
  have hj32 : ∀ (T2 : State) (L2 : List Loc) (X2 : Stand p l e room_1 s m #[(.long q0), (.long q1), (.int p2), (.int p3), (.int p4)] below meth c T2 L2 0 0) (e2 : T2.heap = h0) (N2 : Fr n0 L2) (j32_0 : Int32) (hk2 : (0 : Int32) < j32_0) (hf32_0 : f0 q0 q1 p2 p3 p4 w_LINED w_SCATTERED w_C c_C = f0_32 q0 q1 p2 p3 p4 w_LINED w_SCATTERED w_C c_C j32_0), OGo p e below s (Q0 Z q0 q1 p2 p3 p4 w_LINED w_SCATTERED w_C c_C h0 n0) room_1.cells room_1.slots (T2.setTop (mkF m 32 #[.val (.long q0), .second, .val (.long q1), .second, .val (.int p2), .val (.int p3), .val (.int p4), .val (.int (f1 (1 : Int32) (p2 &&& (2147483647 : Int32)))), .unset, .unset, .unset, .unset, .unset, .unset, .unset, .unset, .unset, .unset] [(.int j32_0)])) := by
    intro T2 L2 X2 e2 N2 j32_0 hk2 hf32_0
    refine OGo.st (fun _ k => XS.istore X2.here hx rfl (hb hby at_32) rfl (l' := #[.val (.long q0), .second, .val (.long q1), .second, .val (.int p2), .val (.int p3), .val (.int p4), .val (.int (f1 (1 : Int32) (p2 &&& (2147483647 : Int32)))), .val (.int j32_0), .unset, .unset, .unset, .unset, .unset, .unset, .unset, .unset, .unset]) rfl k) ?_
    show OGo p e below s _ _ _ (T2.setTop (mkF m 34 #[.val (.long q0), .second, .val (.long q1), .second, .val (.int p2), .val (.int p3), .val (.int p4), .val (.int (f1 (1 : Int32) (p2 &&& (2147483647 : Int32)))), .val (.int j32_0), .unset, .unset, .unset, .unset, .unset, .unset, .unset, .unset, .unset] []))
    refine OGo.st (fun _ k => XS.iload X2.here hx rfl (hb hby at_34) rfl k) ?_
    show OGo p e below s _ _ _ (T2.setTop (mkF m 36 #[.val (.long q0), .second, .val (.long q1), .second, .val (.int p2), .val (.int p3), .val (.int p4), .val (.int (f1 (1 : Int32) (p2 &&& (2147483647 : Int32)))), .val (.int j32_0), .unset, .unset, .unset, .unset, .unset, .unset, .unset, .unset, .unset] [(.int p4)]))
    refine OGo.st (fun _ k => XS.iconst X2.here hx rfl (hb hby at_36) k) ?_
    show OGo p e below s _ _ _ (T2.setTop (mkF m 37 #[.val (.long q0), .second, .val (.long q1), .second, .val (.int p2), .val (.int p3), .val (.int p4), .val (.int (f1 (1 : Int32) (p2 &&& (2147483647 : Int32)))), .val (.int j32_0), .unset, .unset, .unset, .unset, .unset, .unset, .unset, .unset, .unset] [(.int (1 : Int32)), (.int p4)]))
    refine OGo.st (fun _ k => XS.iand X2.here hx rfl (hb hby at_37) rfl k) ?_
    show OGo p e below s _ _ _ (T2.setTop (mkF m 38 #[.val (.long q0), .second, .val (.long q1), .second, .val (.int p2), .val (.int p3), .val (.int p4), .val (.int (f1 (1 : Int32) (p2 &&& (2147483647 : Int32)))), .val (.int j32_0), .unset, .unset, .unset, .unset, .unset, .unset, .unset, .unset, .unset] [(.int (p4 &&& (1 : Int32)))]))
    have hj46 : ∀ (j46_0 : Int64) (hf46_0 : f0 q0 q1 p2 p3 p4 w_LINED w_SCATTERED w_C c_C = f0_46 q0 q1 p2 p3 p4 w_LINED w_SCATTERED w_C c_C j32_0 j46_0), OGo p e below s (Q0 Z q0 q1 p2 p3 p4 w_LINED w_SCATTERED w_C c_C h0 n0) room_1.cells room_1.slots (T2.setTop (mkF m 46 #[.val (.long q0), .second, .val (.long q1), .second, .val (.int p2), .val (.int p3), .val (.int p4), .val (.int (f1 (1 : Int32) (p2 &&& (2147483647 : Int32)))), .val (.int j32_0), .unset, .unset, .unset, .unset, .unset, .unset, .unset, .unset, .unset] [(.long j46_0)])) := by
      intro j46_0 hf46_0
      refine OGo.st (fun _ k => XS.lstore X2.here hx rfl (hb hby at_46) rfl (l' := #[.val (.long q0), .second, .val (.long q1), .second, .val (.int p2), .val (.int p3), .val (.int p4), .val (.int (f1 (1 : Int32) (p2 &&& (2147483647 : Int32)))), .val (.int j32_0), .val (.long j46_0), .second, .unset, .unset, .unset, .unset, .unset, .unset, .unset]) rfl k) ?_
      show OGo p e below s _ _ _ (T2.setTop (mkF m 48 #[.val (.long q0), .second, .val (.long q1), .second, .val (.int p2), .val (.int p3), .val (.int p4), .val (.int (f1 (1 : Int32) (p2 &&& (2147483647 : Int32)))), .val (.int j32_0), .val (.long j46_0), .second, .unset, .unset, .unset, .unset, .unset, .unset, .unset] []))
      refine OGo.st (fun _ k => XS.iload X2.here hx rfl (hb hby at_48) rfl k) ?_
      show OGo p e below s _ _ _ (T2.setTop (mkF m 50 #[.val (.long q0), .second, .val (.long q1), .second, .val (.int p2), .val (.int p3), .val (.int p4), .val (.int (f1 (1 : Int32) (p2 &&& (2147483647 : Int32)))), .val (.int j32_0), .val (.long j46_0), .second, .unset, .unset, .unset, .unset, .unset, .unset, .unset] [(.int p4)]))
      refine OGo.st (fun _ k => XS.iconst X2.here hx rfl (hb hby at_50) k) ?_
      show OGo p e below s _ _ _ (T2.setTop (mkF m 51 #[.val (.long q0), .second, .val (.long q1), .second, .val (.int p2), .val (.int p3), .val (.int p4), .val (.int (f1 (1 : Int32) (p2 &&& (2147483647 : Int32)))), .val (.int j32_0), .val (.long j46_0), .second, .unset, .unset, .unset, .unset, .unset, .unset, .unset] [(.int (4 : Int32)), (.int p4)]))
      refine OGo.st (fun _ k => XS.iand X2.here hx rfl (hb hby at_51) rfl k) ?_
      show OGo p e below s _ _ _ (T2.setTop (mkF m 52 #[.val (.long q0), .second, .val (.long q1), .second, .val (.int p2), .val (.int p3), .val (.int p4), .val (.int (f1 (1 : Int32) (p2 &&& (2147483647 : Int32)))), .val (.int j32_0), .val (.long j46_0), .second, .unset, .unset, .unset, .unset, .unset, .unset, .unset] [(.int (p4 &&& (4 : Int32)))]))
      by_cases hc52 : (p4 &&& (4 : Int32)) = (0 : Int32)
      · refine OGo.st (fun _ k => XS.ifYes X2.here hx rfl (pc0 := 52) (pc' := 61) rfl (hb hby at_52) rfl ((if0 _ _).trans (teq hc52).1) (by decide) (by decide) k) ?_
        show OGo p e below s _ _ _ (T2.setTop (mkF m 61 #[.val (.long q0), .second, .val (.long q1), .second, .val (.int p2), .val (.int p3), .val (.int p4), .val (.int (f1 (1 : Int32) (p2 &&& (2147483647 : Int32)))), .val (.int j32_0), .val (.long j46_0), .second, .unset, .unset, .unset, .unset, .unset, .unset, .unset] []))
        obtain ⟨T4, X4, e4, st4⟩ := getS2 X2 hx hZ hown (host := "") (Or.inl (hw _ (List.mem_of_getElem? (i := 5) rfl))) Via.refl e2 S_SCATTERED (g := (mkF m 61 #[.val (.long q0), .second, .val (.long q1), .second, .val (.int p2), .val (.int p3), .val (.int p4), .val (.int (f1 (1 : Int32) (p2 &&& (2147483647 : Int32)))), .val (.int j32_0), .val (.long j46_0), .second, .unset, .unset, .unset, .unset, .unset, .unset, .unset] [])) rfl (hb hby at_61)
        refine OGo.st st4 ?_
        show OGo p e below s _ _ _ (T4.setTop (mkF m 64 #[.val (.long q0), .second, .val (.long q1), .second, .val (.int p2), .val (.int p3), .val (.int p4), .val (.int (f1 (1 : Int32) (p2 &&& (2147483647 : Int32)))), .val (.int j32_0), .val (.long j46_0), .second, .unset, .unset, .unset, .unset, .unset, .unset, .unset] [(.ref w_SCATTERED)]))
        refine OGo.st (fun _ k => XS.astore X4.here hx rfl (hb hby at_64) rfl rfl (l' := #[.val (.long q0), .second, .val (.long q1), .second, .val (.int p2), .val (.int p3), .val (.int p4), .val (.int (f1 (1 : Int32) (p2 &&& (2147483647 : Int32)))), .val (.int j32_0), .val (.long j46_0), .second, .val (.ref w_SCATTERED), .unset, .unset, .unset, .unset, .unset, .unset]) rfl k) ?_
        show OGo p e below s _ _ _ (T4.setTop (mkF m 66 #[.val (.long q0), .second, .val (.long q1), .second, .val (.int p2), .val (.int p3), .val (.int p4), .val (.int (f1 (1 : Int32) (p2 &&& (2147483647 : Int32)))), .val (.int j32_0), .val (.long j46_0), .second, .val (.ref w_SCATTERED), .unset, .unset, .unset, .unset, .unset, .unset] []))
        refine OGo.st (fun _ k => XS.iload X4.here hx rfl (hb hby at_66) rfl k) ?_
        show OGo p e below s _ _ _ (T4.setTop (mkF m 68 #[.val (.long q0), .second, .val (.long q1), .second, .val (.int p2), .val (.int p3), .val (.int p4), .val (.int (f1 (1 : Int32) (p2 &&& (2147483647 : Int32)))), .val (.int j32_0), .val (.long j46_0), .second, .val (.ref w_SCATTERED), .unset, .unset, .unset, .unset, .unset, .unset] [(.int p4)]))
        refine OGo.st (fun _ k => XS.bipush X4.here hx rfl (hb hby at_68) k) ?_
        show OGo p e below s _ _ _ (T4.setTop (mkF m 70 #[.val (.long q0), .second, .val (.long q1), .second, .val (.int p2), .val (.int p3), .val (.int p4), .val (.int (f1 (1 : Int32) (p2 &&& (2147483647 : Int32)))), .val (.int j32_0), .val (.long j46_0), .second, .val (.ref w_SCATTERED), .unset, .unset, .unset, .unset, .unset, .unset] [(.int (8 : Int32)), (.int p4)]))
        refine OGo.st (fun _ k => XS.iand X4.here hx rfl (hb hby at_70) rfl k) ?_
        show OGo p e below s _ _ _ (T4.setTop (mkF m 71 #[.val (.long q0), .second, .val (.long q1), .second, .val (.int p2), .val (.int p3), .val (.int p4), .val (.int (f1 (1 : Int32) (p2 &&& (2147483647 : Int32)))), .val (.int j32_0), .val (.long j46_0), .second, .val (.ref w_SCATTERED), .unset, .unset, .unset, .unset, .unset, .unset] [(.int (p4 &&& (8 : Int32)))]))
        by_cases hc71 : (p4 &&& (8 : Int32)) = (0 : Int32)
        · refine OGo.st (fun _ k => XS.ifYes X4.here hx rfl (pc0 := 71) (pc' := 80) rfl (hb hby at_71) rfl ((if0 _ _).trans (teq hc71).1) (by decide) (by decide) k) ?_
          show OGo p e below s _ _ _ (T4.setTop (mkF m 80 #[.val (.long q0), .second, .val (.long q1), .second, .val (.int p2), .val (.int p3), .val (.int p4), .val (.int (f1 (1 : Int32) (p2 &&& (2147483647 : Int32)))), .val (.int j32_0), .val (.long j46_0), .second, .val (.ref w_SCATTERED), .unset, .unset, .unset, .unset, .unset, .unset] []))
          obtain ⟨T5, X5, e5, st5⟩ := getS2 X4 hx hZ hown (host := "") (Or.inl (hw _ (List.mem_of_getElem? (i := 5) rfl))) Via.refl e4 S_SCATTERED (g := (mkF m 80 #[.val (.long q0), .second, .val (.long q1), .second, .val (.int p2), .val (.int p3), .val (.int p4), .val (.int (f1 (1 : Int32) (p2 &&& (2147483647 : Int32)))), .val (.int j32_0), .val (.long j46_0), .second, .val (.ref w_SCATTERED), .unset, .unset, .unset, .unset, .unset, .unset] [])) rfl (hb hby at_80)
          refine OGo.st st5 ?_
          show OGo p e below s _ _ _ (T5.setTop (mkF m 83 #[.val (.long q0), .second, .val (.long q1), .second, .val (.int p2), .val (.int p3), .val (.int p4), .val (.int (f1 (1 : Int32) (p2 &&& (2147483647 : Int32)))), .val (.int j32_0), .val (.long j46_0), .second, .val (.ref w_SCATTERED), .unset, .unset, .unset, .unset, .unset, .unset] [(.ref w_SCATTERED)]))
          refine OGo.st (fun _ k => XS.astore X5.here hx rfl (hb hby at_83) rfl rfl (l' := #[.val (.long q0), .second, .val (.long q1), .second, .val (.int p2), .val (.int p3), .val (.int p4), .val (.int (f1 (1 : Int32) (p2 &&& (2147483647 : Int32)))), .val (.int j32_0), .val (.long j46_0), .second, .val (.ref w_SCATTERED), .val (.ref w_SCATTERED), .unset, .unset, .unset, .unset, .unset]) rfl k) ?_
          show OGo p e below s _ _ _ (T5.setTop (mkF m 85 #[.val (.long q0), .second, .val (.long q1), .second, .val (.int p2), .val (.int p3), .val (.int p4), .val (.int (f1 (1 : Int32) (p2 &&& (2147483647 : Int32)))), .val (.int j32_0), .val (.long j46_0), .second, .val (.ref w_SCATTERED), .val (.ref w_SCATTERED), .unset, .unset, .unset, .unset, .unset] []))
          obtain ⟨T6, h6, X6, e6, E6, A6, D6, U6, st6⟩ := newO X5 hx hZ hown (hw _ (List.mem_of_getElem? (i := 8) rfl)) (hw _ (List.mem_of_getElem? (i := 9) rfl)) (hw _ (List.mem_of_getElem? (i := 10) rfl)) e5 (g := (mkF m 85 #[.val (.long q0), .second, .val (.long q1), .second, .val (.int p2), .val (.int p3), .val (.int p4), .val (.int (f1 (1 : Int32) (p2 &&& (2147483647 : Int32)))), .val (.int j32_0), .val (.long j46_0), .second, .val (.ref w_SCATTERED), .val (.ref w_SCATTERED), .unset, .unset, .unset, .unset, .unset] [])) rfl (hb hby at_85) (by decide) (by decide)
          obtain ⟨b6, g6⟩ : ∃ z, z = h0.size := ⟨_, rfl⟩
          rw [← g6] at A6 D6 U6 st6
          refine OGo.st st6 ?_
          have S_LINED_w6 := S_LINED.ext E6
          have S_SCATTERED_w6 := S_SCATTERED.ext E6
          have E_LINED_w6 := E_LINED.ext E6
          have ne_w_LINED_b6 : w_LINED ≠ b6 := Nat.ne_of_lt (Nat.lt_of_lt_of_le E_LINED.lt (Nat.le_of_eq g6.symm))
          have E_SCATTERED_w6 := E_SCATTERED.ext E6
          have ne_w_SCATTERED_b6 : w_SCATTERED ≠ b6 := Nat.ne_of_lt (Nat.lt_of_lt_of_le E_SCATTERED.lt (Nat.le_of_eq g6.symm))
          have O_LINED_lineShift_w6 := O_LINED_lineShift.ext E6
          have O_LINED_ordinal_w6 := O_LINED_ordinal.ext E6
          have O_SCATTERED_lineShift_w6 := O_SCATTERED_lineShift.ext E6
          have O_SCATTERED_ordinal_w6 := O_SCATTERED_ordinal.ext E6
          have S_C_w6 := S_C.ext E6
          have g_b6 : n0 ≤ b6 := Nat.le_trans Z0 (Nat.le_of_eq g6.symm)
          have sz_b6 : h0.size ≤ b6 := Nat.le_trans (Keep.refl h0 []).1 (Nat.le_of_eq g6.symm)
          have K6 : Keep h0 h6 [] := (Keep.refl h0 _).ext E6
          have Z6 : n0 ≤ h6.size := Nat.le_trans Z0 E6.1
          have F_bitCount_b6 : Fld Z h6 b6 "com/example/hazy_set/hazyset/BloomShape" "bitCount" "J" (.long (0 : Int64)) := D6 (Or.inr (hw _ (List.mem_of_getElem? (i := 18) rfl))) (ty := .long) (by decide)
          have F_hashCount_b6 : Fld Z h6 b6 "com/example/hazy_set/hazyset/BloomShape" "hashCount" "I" (.int (0 : Int32)) := D6 (Or.inr (hw _ (List.mem_of_getElem? (i := 20) rfl))) (ty := .int) (by decide)
          have F_layout_b6 : Fld Z h6 b6 "com/example/hazy_set/hazyset/BloomShape" "layout" "Lcom/example/hazy_set/hazyset/BloomShape$Layout;" .null := D6 (Or.inr (hw _ (List.mem_of_getElem? (i := 22) rfl))) (ty := (.object "com/example/hazy_set/hazyset/BloomShape$Layout")) (by decide)
          have F_lineCount_b6 : Fld Z h6 b6 "com/example/hazy_set/hazyset/BloomShape" "lineCount" "J" (.long (0 : Int64)) := D6 (Or.inr (hw _ (List.mem_of_getElem? (i := 26) rfl))) (ty := .long) (by decide)
          have F_linesPerElement_b6 : Fld Z h6 b6 "com/example/hazy_set/hazyset/BloomShape" "linesPerElement" "I" (.int (0 : Int32)) := D6 (Or.inr (hw _ (List.mem_of_getElem? (i := 41) rfl))) (ty := .int) (by decide)
          have F_bitsPerLine_b6 : Fld Z h6 b6 "com/example/hazy_set/hazyset/BloomShape" "bitsPerLine" "I" (.int (0 : Int32)) := D6 (Or.inr (hw _ (List.mem_of_getElem? (i := 43) rfl))) (ty := .int) (by decide)
          have F_longerLines_b6 : Fld Z h6 b6 "com/example/hazy_set/hazyset/BloomShape" "longerLines" "I" (.int (0 : Int32)) := D6 (Or.inr (hw _ (List.mem_of_getElem? (i := 45) rfl))) (ty := .int) (by decide)
          show OGo p e below s _ _ _ (T6.setTop (mkF m 88 #[.val (.long q0), .second, .val (.long q1), .second, .val (.int p2), .val (.int p3), .val (.int p4), .val (.int (f1 (1 : Int32) (p2 &&& (2147483647 : Int32)))), .val (.int j32_0), .val (.long j46_0), .second, .val (.ref w_SCATTERED), .val (.ref w_SCATTERED), .unset, .unset, .unset, .unset, .unset] [(.ref b6)]))
          refine OGo.st (fun _ k => XS.dup X6.here hx rfl (hb hby at_88) rfl rfl k) ?_
          show OGo p e below s _ _ _ (T6.setTop (mkF m 89 #[.val (.long q0), .second, .val (.long q1), .second, .val (.int p2), .val (.int p3), .val (.int p4), .val (.int (f1 (1 : Int32) (p2 &&& (2147483647 : Int32)))), .val (.int j32_0), .val (.long j46_0), .second, .val (.ref w_SCATTERED), .val (.ref w_SCATTERED), .unset, .unset, .unset, .unset, .unset] [(.ref b6), (.ref b6)]))
          refine OGo.st (fun _ k => XS.lloadN X6.here hx rfl (hb hby at_89) rfl k) ?_
          show OGo p e below s _ _ _ (T6.setTop (mkF m 90 #[.val (.long q0), .second, .val (.long q1), .second, .val (.int p2), .val (.int p3), .val (.int p4), .val (.int (f1 (1 : Int32) (p2 &&& (2147483647 : Int32)))), .val (.int j32_0), .val (.long j46_0), .second, .val (.ref w_SCATTERED), .val (.ref w_SCATTERED), .unset, .unset, .unset, .unset, .unset] [(.long q0), (.ref b6), (.ref b6)]))
          refine OGo.st (fun _ k => XS.iload X6.here hx rfl (hb hby at_90) rfl k) ?_
          show OGo p e below s _ _ _ (T6.setTop (mkF m 92 #[.val (.long q0), .second, .val (.long q1), .second, .val (.int p2), .val (.int p3), .val (.int p4), .val (.int (f1 (1 : Int32) (p2 &&& (2147483647 : Int32)))), .val (.int j32_0), .val (.long j46_0), .second, .val (.ref w_SCATTERED), .val (.ref w_SCATTERED), .unset, .unset, .unset, .unset, .unset] [(.int (f1 (1 : Int32) (p2 &&& (2147483647 : Int32)))), (.long q0), (.ref b6), (.ref b6)]))
          refine OGo.st (fun _ k => XS.aload X6.here hx rfl (hb hby at_92) rfl rfl k) ?_
          show OGo p e below s _ _ _ (T6.setTop (mkF m 94 #[.val (.long q0), .second, .val (.long q1), .second, .val (.int p2), .val (.int p3), .val (.int p4), .val (.int (f1 (1 : Int32) (p2 &&& (2147483647 : Int32)))), .val (.int j32_0), .val (.long j46_0), .second, .val (.ref w_SCATTERED), .val (.ref w_SCATTERED), .unset, .unset, .unset, .unset, .unset] [(.ref w_SCATTERED), (.int (f1 (1 : Int32) (p2 &&& (2147483647 : Int32)))), (.long q0), (.ref b6), (.ref b6)]))
          obtain ⟨_, _, ⟨T7, L7, k7, n7⟩, -, X7, ⟨Lc7, hQ7, l7, y7, z7⟩, st7⟩ := X6.specialBack hx (y := (⟨"com/example/hazy_set/hazyset/BloomShape", "<init>", "(JILcom/example/hazy_set/hazyset/BloomShape$Layout;)V"⟩ : MethodName)) rfl hown (mvT hZ (hw _ (List.mem_of_getElem? (i := 11) rfl))) (mvT hZ (hw _ (List.mem_of_getElem? (i := 12) rfl))) (mvT hZ (hw _ (List.mem_of_getElem? (i := 13) rfl))) (by decide) (backOf (W := 1) (rm2S l Z a0 hw [] b6 q0 (f1 (1 : Int32) (p2 &&& (2147483647 : Int32))) w_SCATTERED h6 n0 Z6 A6 F_bitCount_b6 F_hashCount_b6 F_layout_b6 F_lineCount_b6 F_linesPerElement_b6 F_bitsPerLine_b6 F_longerLines_b6 E_SCATTERED_w6 O_SCATTERED_lineShift_w6 O_SCATTERED_ordinal_w6 g_b6 ne_w_SCATTERED_b6 (own_pos _)) hZ (hw _ (List.mem_of_getElem? (i := 13) rfl)) (hw _ (List.mem_of_getElem? (i := 10) rfl)) (by decide) (by decide)) (g := (mkF m 94 #[.val (.long q0), .second, .val (.long q1), .second, .val (.int p2), .val (.int p3), .val (.int p4), .val (.int (f1 (1 : Int32) (p2 &&& (2147483647 : Int32)))), .val (.int j32_0), .val (.long j46_0), .second, .val (.ref w_SCATTERED), .val (.ref w_SCATTERED), .unset, .unset, .unset, .unset, .unset] [(.ref w_SCATTERED), (.int (f1 (1 : Int32) (p2 &&& (2147483647 : Int32)))), (.long q0), (.ref b6), (.ref b6)])) rfl (by rw [hml]; rfl) (Steps.refl _) (a := b6) (argsL := [(.long q0), (.int (f1 (1 : Int32) (p2 &&& (2147483647 : Int32)))), (.ref w_SCATTERED)]) (rest := [(.ref b6)]) (lenOf pd_0_1 rfl) rfl (by show 2 * 0 + _ ≤ _; exact Nat.le_of_eq rfl) (hb hby at_94) (fun _ _ => ⟨rfl, e6, (by decide : 1 + 0 ≤ _), (by decide : 7 + 0 ≤ _)⟩)
          dsimp only [Pt.U, Pt.locs, Pt.cells, Pt.slots] at X7 l7 y7 z7 st7 hQ7
          subst l7 y7 z7
          obtain ⟨rfl, N7q, Kc7, G7_0, G7_1, G7_2⟩ := hQ7
          have S_LINED_w7 := osta_keep S_LINED_w6 Kc7 (osta_exa A6 (fun _ _ _ _ => nin0))
          have S_SCATTERED_w7 := osta_keep S_SCATTERED_w6 Kc7 (osta_exa A6 (fun _ _ _ _ => nin0))
          have E_LINED_w7 := E_LINED_w6.keep Kc7
          have E_SCATTERED_w7 := E_SCATTERED_w6.keep Kc7
          have O_LINED_lineShift_w7 := O_LINED_lineShift_w6.keep Kc7 (ninS ne_w_LINED_b6 nin0)
          have O_LINED_ordinal_w7 := O_LINED_ordinal_w6.keep Kc7 (ninS ne_w_LINED_b6 nin0)
          have O_SCATTERED_lineShift_w7 := O_SCATTERED_lineShift_w6.keep Kc7 (ninS ne_w_SCATTERED_b6 nin0)
          have O_SCATTERED_ordinal_w7 := O_SCATTERED_ordinal_w6.keep Kc7 (ninS ne_w_SCATTERED_b6 nin0)
          have S_C_w7 := osta_keep S_C_w6 Kc7 (osta_exa A6 (fun _ _ _ _ => nin0))
          have A6_w7 := A6.keep Kc7
          have K7 : Keep h0 T7.heap [] := (K6).trans Kc7 (allS (Or.inr sz_b6) all0)
          have Z7 : n0 ≤ T7.heap.size := Nat.le_trans Z6 Kc7.1
          have N7 := Fr.app N2 N7q
          refine OGo.st (fun _ k => st7.trans k) ?_
          show OGo p e below s _ _ _ (T7.setTop (mkF m 97 #[.val (.long q0), .second, .val (.long q1), .second, .val (.int p2), .val (.int p3), .val (.int p4), .val (.int (f1 (1 : Int32) (p2 &&& (2147483647 : Int32)))), .val (.int j32_0), .val (.long j46_0), .second, .val (.ref w_SCATTERED), .val (.ref w_SCATTERED), .unset, .unset, .unset, .unset, .unset] [(.ref b6)]))
          refine OGo.st (fun _ k => XS.astore X7.here hx rfl (hb hby at_97) rfl rfl (l' := #[.val (.long q0), .second, .val (.long q1), .second, .val (.int p2), .val (.int p3), .val (.int p4), .val (.int (f1 (1 : Int32) (p2 &&& (2147483647 : Int32)))), .val (.int j32_0), .val (.long j46_0), .second, .val (.ref w_SCATTERED), .val (.ref w_SCATTERED), .val (.ref b6), .unset, .unset, .unset, .unset]) rfl k) ?_
          show OGo p e below s _ _ _ (T7.setTop (mkF m 99 #[.val (.long q0), .second, .val (.long q1), .second, .val (.int p2), .val (.int p3), .val (.int p4), .val (.int (f1 (1 : Int32) (p2 &&& (2147483647 : Int32)))), .val (.int j32_0), .val (.long j46_0), .second, .val (.ref w_SCATTERED), .val (.ref w_SCATTERED), .val (.ref b6), .unset, .unset, .unset, .unset] []))
          obtain ⟨T8, h8, X8, e8, E8, A8, D8, U8, st8⟩ := newO X7 hx hZ hown (hw _ (List.mem_of_getElem? (i := 8) rfl)) (hw _ (List.mem_of_getElem? (i := 9) rfl)) (hw _ (List.mem_of_getElem? (i := 10) rfl)) rfl (g := (mkF m 99 #[.val (.long q0), .second, .val (.long q1), .second, .val (.int p2), .val (.int p3), .val (.int p4), .val (.int (f1 (1 : Int32) (p2 &&& (2147483647 : Int32)))), .val (.int j32_0), .val (.long j46_0), .second, .val (.ref w_SCATTERED), .val (.ref w_SCATTERED), .val (.ref b6), .unset, .unset, .unset, .unset] [])) rfl (hb hby at_99) (by decide) (by decide)
          obtain ⟨b8, g8⟩ : ∃ z, z = T7.heap.size := ⟨_, rfl⟩
          rw [← g8] at A8 D8 U8 st8
          refine OGo.st st8 ?_
          have S_LINED_w8 := S_LINED_w7.ext E8
          have S_SCATTERED_w8 := S_SCATTERED_w7.ext E8
          have E_LINED_w8 := E_LINED_w7.ext E8
          have ne_w_LINED_b8 : w_LINED ≠ b8 := Nat.ne_of_lt (Nat.lt_of_lt_of_le E_LINED_w7.lt (Nat.le_of_eq g8.symm))
          have E_SCATTERED_w8 := E_SCATTERED_w7.ext E8
          have ne_w_SCATTERED_b8 : w_SCATTERED ≠ b8 := Nat.ne_of_lt (Nat.lt_of_lt_of_le E_SCATTERED_w7.lt (Nat.le_of_eq g8.symm))
          have O_LINED_lineShift_w8 := O_LINED_lineShift_w7.ext E8
          have O_LINED_ordinal_w8 := O_LINED_ordinal_w7.ext E8
          have O_SCATTERED_lineShift_w8 := O_SCATTERED_lineShift_w7.ext E8
          have O_SCATTERED_ordinal_w8 := O_SCATTERED_ordinal_w7.ext E8
          have S_C_w8 := S_C_w7.ext E8
          have A6_w8 := A6_w7.ext E8
          have ne_b6_b8 : b6 ≠ b8 := Nat.ne_of_lt (Nat.lt_of_lt_of_le A6_w7.lt (Nat.le_of_eq g8.symm))
          have G7_0_w8 := G7_0.ext E8
          have G7_1_w8 := G7_1.ext E8
          have G7_2_w8 := G7_2.ext E8
          have g_b8 : n0 ≤ b8 := Nat.le_trans Z7 (Nat.le_of_eq g8.symm)
          have sz_b8 : h0.size ≤ b8 := Nat.le_trans (K7).1 (Nat.le_of_eq g8.symm)
          have K8 : Keep h0 h8 [] := (K7).ext E8
          have Z8 : n0 ≤ h8.size := Nat.le_trans Z7 E8.1
          have F_bitCount_b8 : Fld Z h8 b8 "com/example/hazy_set/hazyset/BloomShape" "bitCount" "J" (.long (0 : Int64)) := D8 (Or.inr (hw _ (List.mem_of_getElem? (i := 18) rfl))) (ty := .long) (by decide)
          have F_hashCount_b8 : Fld Z h8 b8 "com/example/hazy_set/hazyset/BloomShape" "hashCount" "I" (.int (0 : Int32)) := D8 (Or.inr (hw _ (List.mem_of_getElem? (i := 20) rfl))) (ty := .int) (by decide)
          have F_layout_b8 : Fld Z h8 b8 "com/example/hazy_set/hazyset/BloomShape" "layout" "Lcom/example/hazy_set/hazyset/BloomShape$Layout;" .null := D8 (Or.inr (hw _ (List.mem_of_getElem? (i := 22) rfl))) (ty := (.object "com/example/hazy_set/hazyset/BloomShape$Layout")) (by decide)
          have F_lineCount_b8 : Fld Z h8 b8 "com/example/hazy_set/hazyset/BloomShape" "lineCount" "J" (.long (0 : Int64)) := D8 (Or.inr (hw _ (List.mem_of_getElem? (i := 26) rfl))) (ty := .long) (by decide)
          have F_linesPerElement_b8 : Fld Z h8 b8 "com/example/hazy_set/hazyset/BloomShape" "linesPerElement" "I" (.int (0 : Int32)) := D8 (Or.inr (hw _ (List.mem_of_getElem? (i := 41) rfl))) (ty := .int) (by decide)
          have F_bitsPerLine_b8 : Fld Z h8 b8 "com/example/hazy_set/hazyset/BloomShape" "bitsPerLine" "I" (.int (0 : Int32)) := D8 (Or.inr (hw _ (List.mem_of_getElem? (i := 43) rfl))) (ty := .int) (by decide)
          have F_longerLines_b8 : Fld Z h8 b8 "com/example/hazy_set/hazyset/BloomShape" "longerLines" "I" (.int (0 : Int32)) := D8 (Or.inr (hw _ (List.mem_of_getElem? (i := 45) rfl))) (ty := .int) (by decide)
          show OGo p e below s _ _ _ (T8.setTop (mkF m 102 #[.val (.long q0), .second, .val (.long q1), .second, .val (.int p2), .val (.int p3), .val (.int p4), .val (.int (f1 (1 : Int32) (p2 &&& (2147483647 : Int32)))), .val (.int j32_0), .val (.long j46_0), .second, .val (.ref w_SCATTERED), .val (.ref w_SCATTERED), .val (.ref b6), .unset, .unset, .unset, .unset] [(.ref b8)]))
          refine OGo.st (fun _ k => XS.dup X8.here hx rfl (hb hby at_102) rfl rfl k) ?_
          show OGo p e below s _ _ _ (T8.setTop (mkF m 103 #[.val (.long q0), .second, .val (.long q1), .second, .val (.int p2), .val (.int p3), .val (.int p4), .val (.int (f1 (1 : Int32) (p2 &&& (2147483647 : Int32)))), .val (.int j32_0), .val (.long j46_0), .second, .val (.ref w_SCATTERED), .val (.ref w_SCATTERED), .val (.ref b6), .unset, .unset, .unset, .unset] [(.ref b8), (.ref b8)]))
          refine OGo.st (fun _ k => XS.lload X8.here hx rfl (hb hby at_103) rfl k) ?_
          show OGo p e below s _ _ _ (T8.setTop (mkF m 105 #[.val (.long q0), .second, .val (.long q1), .second, .val (.int p2), .val (.int p3), .val (.int p4), .val (.int (f1 (1 : Int32) (p2 &&& (2147483647 : Int32)))), .val (.int j32_0), .val (.long j46_0), .second, .val (.ref w_SCATTERED), .val (.ref w_SCATTERED), .val (.ref b6), .unset, .unset, .unset, .unset] [(.long j46_0), (.ref b8), (.ref b8)]))
          refine OGo.st (fun _ k => XS.iload X8.here hx rfl (hb hby at_105) rfl k) ?_
          show OGo p e below s _ _ _ (T8.setTop (mkF m 107 #[.val (.long q0), .second, .val (.long q1), .second, .val (.int p2), .val (.int p3), .val (.int p4), .val (.int (f1 (1 : Int32) (p2 &&& (2147483647 : Int32)))), .val (.int j32_0), .val (.long j46_0), .second, .val (.ref w_SCATTERED), .val (.ref w_SCATTERED), .val (.ref b6), .unset, .unset, .unset, .unset] [(.int j32_0), (.long j46_0), (.ref b8), (.ref b8)]))
          refine OGo.st (fun _ k => XS.aload X8.here hx rfl (hb hby at_107) rfl rfl k) ?_
          show OGo p e below s _ _ _ (T8.setTop (mkF m 109 #[.val (.long q0), .second, .val (.long q1), .second, .val (.int p2), .val (.int p3), .val (.int p4), .val (.int (f1 (1 : Int32) (p2 &&& (2147483647 : Int32)))), .val (.int j32_0), .val (.long j46_0), .second, .val (.ref w_SCATTERED), .val (.ref w_SCATTERED), .val (.ref b6), .unset, .unset, .unset, .unset] [(.ref w_SCATTERED), (.int j32_0), (.long j46_0), (.ref b8), (.ref b8)]))
          obtain ⟨_, _, ⟨T9, L9, k9, n9⟩, -, X9, ⟨Lc9, hQ9, l9, y9, z9⟩, st9⟩ := X8.specialBack hx (y := (⟨"com/example/hazy_set/hazyset/BloomShape", "<init>", "(JILcom/example/hazy_set/hazyset/BloomShape$Layout;)V"⟩ : MethodName)) rfl hown (mvT hZ (hw _ (List.mem_of_getElem? (i := 11) rfl))) (mvT hZ (hw _ (List.mem_of_getElem? (i := 12) rfl))) (mvT hZ (hw _ (List.mem_of_getElem? (i := 13) rfl))) (by decide) (backOf (W := 1) (rm2S l Z a0 hw [] b8 j46_0 j32_0 w_SCATTERED h8 n0 Z8 A8 F_bitCount_b8 F_hashCount_b8 F_layout_b8 F_lineCount_b8 F_linesPerElement_b8 F_bitsPerLine_b8 F_longerLines_b8 E_SCATTERED_w8 O_SCATTERED_lineShift_w8 O_SCATTERED_ordinal_w8 g_b8 ne_w_SCATTERED_b8 hk2) hZ (hw _ (List.mem_of_getElem? (i := 13) rfl)) (hw _ (List.mem_of_getElem? (i := 10) rfl)) (by decide) (by decide)) (g := (mkF m 109 #[.val (.long q0), .second, .val (.long q1), .second, .val (.int p2), .val (.int p3), .val (.int p4), .val (.int (f1 (1 : Int32) (p2 &&& (2147483647 : Int32)))), .val (.int j32_0), .val (.long j46_0), .second, .val (.ref w_SCATTERED), .val (.ref w_SCATTERED), .val (.ref b6), .unset, .unset, .unset, .unset] [(.ref w_SCATTERED), (.int j32_0), (.long j46_0), (.ref b8), (.ref b8)])) rfl (by rw [hml]; rfl) (Steps.refl _) (a := b8) (argsL := [(.long j46_0), (.int j32_0), (.ref w_SCATTERED)]) (rest := [(.ref b8)]) (lenOf pd_0_1 rfl) rfl (by show 2 * 0 + _ ≤ _; exact Nat.le_of_eq rfl) (hb hby at_109) (fun _ _ => ⟨rfl, e8, (by decide : 2 + 0 ≤ _), (by decide : 14 + 0 ≤ _)⟩)
          dsimp only [Pt.U, Pt.locs, Pt.cells, Pt.slots] at X9 l9 y9 z9 st9 hQ9
          subst l9 y9 z9
          obtain ⟨rfl, N9q, Kc9, G9_0, G9_1, G9_2⟩ := hQ9
          have S_LINED_w9 := osta_keep S_LINED_w8 Kc9 (osta_exa A8 (fun _ _ _ _ => nin0))
          have S_SCATTERED_w9 := osta_keep S_SCATTERED_w8 Kc9 (osta_exa A8 (fun _ _ _ _ => nin0))
          have E_LINED_w9 := E_LINED_w8.keep Kc9
          have E_SCATTERED_w9 := E_SCATTERED_w8.keep Kc9
          have O_LINED_lineShift_w9 := O_LINED_lineShift_w8.keep Kc9 (ninS ne_w_LINED_b8 nin0)
          have O_LINED_ordinal_w9 := O_LINED_ordinal_w8.keep Kc9 (ninS ne_w_LINED_b8 nin0)
          have O_SCATTERED_lineShift_w9 := O_SCATTERED_lineShift_w8.keep Kc9 (ninS ne_w_SCATTERED_b8 nin0)
          have O_SCATTERED_ordinal_w9 := O_SCATTERED_ordinal_w8.keep Kc9 (ninS ne_w_SCATTERED_b8 nin0)
          have S_C_w9 := osta_keep S_C_w8 Kc9 (osta_exa A8 (fun _ _ _ _ => nin0))
          have A6_w9 := A6_w8.keep Kc9
          have G7_0_w9 := G7_0_w8.keep Kc9 (ninS ne_b6_b8 nin0)
          have G7_1_w9 := G7_1_w8.keep Kc9 (ninS ne_b6_b8 nin0)
          have G7_2_w9 := G7_2_w8.keep Kc9 (ninS ne_b6_b8 nin0)
          have A8_w9 := A8.keep Kc9
          have K9 : Keep h0 T9.heap [] := (K8).trans Kc9 (allS (Or.inr sz_b8) all0)
          have Z9 : n0 ≤ T9.heap.size := Nat.le_trans Z8 Kc9.1
          have N9 := Fr.app N7 N9q
          refine OGo.st (fun _ k => st9.trans k) ?_
          show OGo p e below s _ _ _ (T9.setTop (mkF m 112 #[.val (.long q0), .second, .val (.long q1), .second, .val (.int p2), .val (.int p3), .val (.int p4), .val (.int (f1 (1 : Int32) (p2 &&& (2147483647 : Int32)))), .val (.int j32_0), .val (.long j46_0), .second, .val (.ref w_SCATTERED), .val (.ref w_SCATTERED), .val (.ref b6), .unset, .unset, .unset, .unset] [(.ref b8)]))
          refine OGo.st (fun _ k => XS.astore X9.here hx rfl (hb hby at_112) rfl rfl (l' := #[.val (.long q0), .second, .val (.long q1), .second, .val (.int p2), .val (.int p3), .val (.int p4), .val (.int (f1 (1 : Int32) (p2 &&& (2147483647 : Int32)))), .val (.int j32_0), .val (.long j46_0), .second, .val (.ref w_SCATTERED), .val (.ref w_SCATTERED), .val (.ref b6), .val (.ref b8), .unset, .unset, .unset]) rfl k) ?_
          show OGo p e below s _ _ _ (T9.setTop (mkF m 114 #[.val (.long q0), .second, .val (.long q1), .second, .val (.int p2), .val (.int p3), .val (.int p4), .val (.int (f1 (1 : Int32) (p2 &&& (2147483647 : Int32)))), .val (.int j32_0), .val (.long j46_0), .second, .val (.ref w_SCATTERED), .val (.ref w_SCATTERED), .val (.ref b6), .val (.ref b8), .unset, .unset, .unset] []))
          refine OGo.st (fun _ k => XS.iload X9.here hx rfl (hb hby at_114) rfl k) ?_
          show OGo p e below s _ _ _ (T9.setTop (mkF m 116 #[.val (.long q0), .second, .val (.long q1), .second, .val (.int p2), .val (.int p3), .val (.int p4), .val (.int (f1 (1 : Int32) (p2 &&& (2147483647 : Int32)))), .val (.int j32_0), .val (.long j46_0), .second, .val (.ref w_SCATTERED), .val (.ref w_SCATTERED), .val (.ref b6), .val (.ref b8), .unset, .unset, .unset] [(.int p4)]))
          refine OGo.st (fun _ k => XS.iconst X9.here hx rfl (hb hby at_116) k) ?_
          show OGo p e below s _ _ _ (T9.setTop (mkF m 117 #[.val (.long q0), .second, .val (.long q1), .second, .val (.int p2), .val (.int p3), .val (.int p4), .val (.int (f1 (1 : Int32) (p2 &&& (2147483647 : Int32)))), .val (.int j32_0), .val (.long j46_0), .second, .val (.ref w_SCATTERED), .val (.ref w_SCATTERED), .val (.ref b6), .val (.ref b8), .unset, .unset, .unset] [(.int (4 : Int32)), (.int p4)]))
          refine OGo.st (fun _ k => XS.iushr X9.here hx rfl (hb hby at_117) rfl k) ?_
          show OGo p e below s _ _ _ (T9.setTop (mkF m 118 #[.val (.long q0), .second, .val (.long q1), .second, .val (.int p2), .val (.int p3), .val (.int p4), .val (.int (f1 (1 : Int32) (p2 &&& (2147483647 : Int32)))), .val (.int j32_0), .val (.long j46_0), .second, .val (.ref w_SCATTERED), .val (.ref w_SCATTERED), .val (.ref b6), .val (.ref b8), .unset, .unset, .unset] [(.int ((p4.toUInt32 >>> ((4 : Int32) &&& 31).toUInt32).toInt32))]))
          refine OGo.st (fun _ k => XS.iconst X9.here hx rfl (hb hby at_118) k) ?_
          show OGo p e below s _ _ _ (T9.setTop (mkF m 119 #[.val (.long q0), .second, .val (.long q1), .second, .val (.int p2), .val (.int p3), .val (.int p4), .val (.int (f1 (1 : Int32) (p2 &&& (2147483647 : Int32)))), .val (.int j32_0), .val (.long j46_0), .second, .val (.ref w_SCATTERED), .val (.ref w_SCATTERED), .val (.ref b6), .val (.ref b8), .unset, .unset, .unset] [(.int (3 : Int32)), (.int ((p4.toUInt32 >>> ((4 : Int32) &&& 31).toUInt32).toInt32))]))
          refine OGo.st (fun _ k => XS.iand X9.here hx rfl (hb hby at_119) rfl k) ?_
          show OGo p e below s _ _ _ (T9.setTop (mkF m 120 #[.val (.long q0), .second, .val (.long q1), .second, .val (.int p2), .val (.int p3), .val (.int p4), .val (.int (f1 (1 : Int32) (p2 &&& (2147483647 : Int32)))), .val (.int j32_0), .val (.long j46_0), .second, .val (.ref w_SCATTERED), .val (.ref w_SCATTERED), .val (.ref b6), .val (.ref b8), .unset, .unset, .unset] [(.int (((p4.toUInt32 >>> ((4 : Int32) &&& 31).toUInt32).toInt32) &&& (3 : Int32)))]))
          refine OGo.st (fun _ k => XS.istore X9.here hx rfl (hb hby at_120) rfl (l' := #[.val (.long q0), .second, .val (.long q1), .second, .val (.int p2), .val (.int p3), .val (.int p4), .val (.int (f1 (1 : Int32) (p2 &&& (2147483647 : Int32)))), .val (.int j32_0), .val (.long j46_0), .second, .val (.ref w_SCATTERED), .val (.ref w_SCATTERED), .val (.ref b6), .val (.ref b8), .val (.int (v0_0 q0 q1 p2 p3 p4 w_LINED w_SCATTERED w_C c_C j32_0 j46_0)), .unset, .unset]) rfl k) ?_
          show OGo p e below s _ _ _ (T9.setTop (mkF m 122 #[.val (.long q0), .second, .val (.long q1), .second, .val (.int p2), .val (.int p3), .val (.int p4), .val (.int (f1 (1 : Int32) (p2 &&& (2147483647 : Int32)))), .val (.int j32_0), .val (.long j46_0), .second, .val (.ref w_SCATTERED), .val (.ref w_SCATTERED), .val (.ref b6), .val (.ref b8), .val (.int (v0_0 q0 q1 p2 p3 p4 w_LINED w_SCATTERED w_C c_C j32_0 j46_0)), .unset, .unset] []))
          refine OGo.st (fun _ k => XS.iload X9.here hx rfl (hb hby at_122) rfl k) ?_
          show OGo p e below s _ _ _ (T9.setTop (mkF m 124 #[.val (.long q0), .second, .val (.long q1), .second, .val (.int p2), .val (.int p3), .val (.int p4), .val (.int (f1 (1 : Int32) (p2 &&& (2147483647 : Int32)))), .val (.int j32_0), .val (.long j46_0), .second, .val (.ref w_SCATTERED), .val (.ref w_SCATTERED), .val (.ref b6), .val (.ref b8), .val (.int (v0_0 q0 q1 p2 p3 p4 w_LINED w_SCATTERED w_C c_C j32_0 j46_0)), .unset, .unset] [(.int (v0_0 q0 q1 p2 p3 p4 w_LINED w_SCATTERED w_C c_C j32_0 j46_0))]))
          by_cases hc124 : (v0_0 q0 q1 p2 p3 p4 w_LINED w_SCATTERED w_C c_C j32_0 j46_0) = (0 : Int32)
          · refine OGo.st (fun _ k => XS.ifNo X9.here hx rfl (hb hby at_124) rfl ((if0 _ _).trans (teq hc124).2) k) ?_
            show OGo p e below s _ _ _ (T9.setTop (mkF m 127 #[.val (.long q0), .second, .val (.long q1), .second, .val (.int p2), .val (.int p3), .val (.int p4), .val (.int (f1 (1 : Int32) (p2 &&& (2147483647 : Int32)))), .val (.int j32_0), .val (.long j46_0), .second, .val (.ref w_SCATTERED), .val (.ref w_SCATTERED), .val (.ref b6), .val (.ref b8), .val (.int (v0_0 q0 q1 p2 p3 p4 w_LINED w_SCATTERED w_C c_C j32_0 j46_0)), .unset, .unset] []))
            refine OGo.st (fun _ k => XS.aload X9.here hx rfl (hb hby at_127) rfl rfl k) ?_
            show OGo p e below s _ _ _ (T9.setTop (mkF m 129 #[.val (.long q0), .second, .val (.long q1), .second, .val (.int p2), .val (.int p3), .val (.int p4), .val (.int (f1 (1 : Int32) (p2 &&& (2147483647 : Int32)))), .val (.int j32_0), .val (.long j46_0), .second, .val (.ref w_SCATTERED), .val (.ref w_SCATTERED), .val (.ref b6), .val (.ref b8), .val (.int (v0_0 q0 q1 p2 p3 p4 w_LINED w_SCATTERED w_C c_C j32_0 j46_0)), .unset, .unset] [(.ref b8)]))
            refine OGo.st (fun _ k => XS.astore X9.here hx rfl (hb hby at_129) rfl rfl (l' := #[.val (.long q0), .second, .val (.long q1), .second, .val (.int p2), .val (.int p3), .val (.int p4), .val (.int (f1 (1 : Int32) (p2 &&& (2147483647 : Int32)))), .val (.int j32_0), .val (.long j46_0), .second, .val (.ref w_SCATTERED), .val (.ref w_SCATTERED), .val (.ref b6), .val (.ref b8), .val (.int (v0_0 q0 q1 p2 p3 p4 w_LINED w_SCATTERED w_C c_C j32_0 j46_0)), .val (.ref b8), .unset]) rfl k) ?_
            show OGo p e below s _ _ _ (T9.setTop (mkF m 131 #[.val (.long q0), .second, .val (.long q1), .second, .val (.int p2), .val (.int p3), .val (.int p4), .val (.int (f1 (1 : Int32) (p2 &&& (2147483647 : Int32)))), .val (.int j32_0), .val (.long j46_0), .second, .val (.ref w_SCATTERED), .val (.ref w_SCATTERED), .val (.ref b6), .val (.ref b8), .val (.int (v0_0 q0 q1 p2 p3 p4 w_LINED w_SCATTERED w_C c_C j32_0 j46_0)), .val (.ref b8), .unset] []))
            refine OGo.st (fun _ k => XS.lloadN X9.here hx rfl (hb hby at_131) rfl k) ?_
            show OGo p e below s _ _ _ (T9.setTop (mkF m 132 #[.val (.long q0), .second, .val (.long q1), .second, .val (.int p2), .val (.int p3), .val (.int p4), .val (.int (f1 (1 : Int32) (p2 &&& (2147483647 : Int32)))), .val (.int j32_0), .val (.long j46_0), .second, .val (.ref w_SCATTERED), .val (.ref w_SCATTERED), .val (.ref b6), .val (.ref b8), .val (.int (v0_0 q0 q1 p2 p3 p4 w_LINED w_SCATTERED w_C c_C j32_0 j46_0)), .val (.ref b8), .unset] [(.long q0)]))
            refine OGo.st (fun _ k => XS.lload X9.here hx rfl (hb hby at_132) rfl k) ?_
            show OGo p e below s _ _ _ (T9.setTop (mkF m 134 #[.val (.long q0), .second, .val (.long q1), .second, .val (.int p2), .val (.int p3), .val (.int p4), .val (.int (f1 (1 : Int32) (p2 &&& (2147483647 : Int32)))), .val (.int j32_0), .val (.long j46_0), .second, .val (.ref w_SCATTERED), .val (.ref w_SCATTERED), .val (.ref b6), .val (.ref b8), .val (.int (v0_0 q0 q1 p2 p3 p4 w_LINED w_SCATTERED w_C c_C j32_0 j46_0)), .val (.ref b8), .unset] [(.long j46_0), (.long q0)]))
            refine OGo.st (fun _ k => XS.lcmp X9.here hx rfl (hb hby at_134) rfl k) ?_
            show OGo p e below s _ _ _ (T9.setTop (mkF m 135 #[.val (.long q0), .second, .val (.long q1), .second, .val (.int p2), .val (.int p3), .val (.int p4), .val (.int (f1 (1 : Int32) (p2 &&& (2147483647 : Int32)))), .val (.int j32_0), .val (.long j46_0), .second, .val (.ref w_SCATTERED), .val (.ref w_SCATTERED), .val (.ref b6), .val (.ref b8), .val (.int (v0_0 q0 q1 p2 p3 p4 w_LINED w_SCATTERED w_C c_C j32_0 j46_0)), .val (.ref b8), .unset] [(.int (lcmpW q0 j46_0))]))
            by_cases hc135 : q0 = j46_0
            · refine OGo.st (fun _ k => XS.ifNo X9.here hx rfl (hb hby at_135) rfl ((if0 _ _).trans (teq ((olc_eq _ _).mpr hc135)).2) k) ?_
              show OGo p e below s _ _ _ (T9.setTop (mkF m 138 #[.val (.long q0), .second, .val (.long q1), .second, .val (.int p2), .val (.int p3), .val (.int p4), .val (.int (f1 (1 : Int32) (p2 &&& (2147483647 : Int32)))), .val (.int j32_0), .val (.long j46_0), .second, .val (.ref w_SCATTERED), .val (.ref w_SCATTERED), .val (.ref b6), .val (.ref b8), .val (.int (v0_0 q0 q1 p2 p3 p4 w_LINED w_SCATTERED w_C c_C j32_0 j46_0)), .val (.ref b8), .unset] []))
              refine OGo.st (fun _ k => XS.iload X9.here hx rfl (hb hby at_138) rfl k) ?_
              show OGo p e below s _ _ _ (T9.setTop (mkF m 140 #[.val (.long q0), .second, .val (.long q1), .second, .val (.int p2), .val (.int p3), .val (.int p4), .val (.int (f1 (1 : Int32) (p2 &&& (2147483647 : Int32)))), .val (.int j32_0), .val (.long j46_0), .second, .val (.ref w_SCATTERED), .val (.ref w_SCATTERED), .val (.ref b6), .val (.ref b8), .val (.int (v0_0 q0 q1 p2 p3 p4 w_LINED w_SCATTERED w_C c_C j32_0 j46_0)), .val (.ref b8), .unset] [(.int (f1 (1 : Int32) (p2 &&& (2147483647 : Int32))))]))
              refine OGo.st (fun _ k => XS.iload X9.here hx rfl (hb hby at_140) rfl k) ?_
              show OGo p e below s _ _ _ (T9.setTop (mkF m 142 #[.val (.long q0), .second, .val (.long q1), .second, .val (.int p2), .val (.int p3), .val (.int p4), .val (.int (f1 (1 : Int32) (p2 &&& (2147483647 : Int32)))), .val (.int j32_0), .val (.long j46_0), .second, .val (.ref w_SCATTERED), .val (.ref w_SCATTERED), .val (.ref b6), .val (.ref b8), .val (.int (v0_0 q0 q1 p2 p3 p4 w_LINED w_SCATTERED w_C c_C j32_0 j46_0)), .val (.ref b8), .unset] [(.int j32_0), (.int (f1 (1 : Int32) (p2 &&& (2147483647 : Int32))))]))
              by_cases hc142 : (f1 (1 : Int32) (p2 &&& (2147483647 : Int32))) = j32_0
              · refine OGo.st (fun _ k => XS.icmpNo X9.here hx rfl (hb hby at_142) rfl (teq hc142).2 k) ?_
                show OGo p e below s _ _ _ (T9.setTop (mkF m 145 #[.val (.long q0), .second, .val (.long q1), .second, .val (.int p2), .val (.int p3), .val (.int p4), .val (.int (f1 (1 : Int32) (p2 &&& (2147483647 : Int32)))), .val (.int j32_0), .val (.long j46_0), .second, .val (.ref w_SCATTERED), .val (.ref w_SCATTERED), .val (.ref b6), .val (.ref b8), .val (.int (v0_0 q0 q1 p2 p3 p4 w_LINED w_SCATTERED w_C c_C j32_0 j46_0)), .val (.ref b8), .unset] []))
                refine OGo.st (fun _ k => XS.aload X9.here hx rfl (hb hby at_145) rfl rfl k) ?_
                show OGo p e below s _ _ _ (T9.setTop (mkF m 147 #[.val (.long q0), .second, .val (.long q1), .second, .val (.int p2), .val (.int p3), .val (.int p4), .val (.int (f1 (1 : Int32) (p2 &&& (2147483647 : Int32)))), .val (.int j32_0), .val (.long j46_0), .second, .val (.ref w_SCATTERED), .val (.ref w_SCATTERED), .val (.ref b6), .val (.ref b8), .val (.int (v0_0 q0 q1 p2 p3 p4 w_LINED w_SCATTERED w_C c_C j32_0 j46_0)), .val (.ref b8), .unset] [(.ref w_SCATTERED)]))
                refine OGo.st (fun _ k => XS.aload X9.here hx rfl (hb hby at_147) rfl rfl k) ?_
                show OGo p e below s _ _ _ (T9.setTop (mkF m 149 #[.val (.long q0), .second, .val (.long q1), .second, .val (.int p2), .val (.int p3), .val (.int p4), .val (.int (f1 (1 : Int32) (p2 &&& (2147483647 : Int32)))), .val (.int j32_0), .val (.long j46_0), .second, .val (.ref w_SCATTERED), .val (.ref w_SCATTERED), .val (.ref b6), .val (.ref b8), .val (.int (v0_0 q0 q1 p2 p3 p4 w_LINED w_SCATTERED w_C c_C j32_0 j46_0)), .val (.ref b8), .unset] [(.ref w_SCATTERED), (.ref w_SCATTERED)]))
                refine OGo.st (fun _ k => Jvm.RoadKit.acmp (g := (mkF m 149 #[.val (.long q0), .second, .val (.long q1), .second, .val (.int p2), .val (.int p3), .val (.int p4), .val (.int (f1 (1 : Int32) (p2 &&& (2147483647 : Int32)))), .val (.int j32_0), .val (.long j46_0), .second, .val (.ref w_SCATTERED), .val (.ref w_SCATTERED), .val (.ref b6), .val (.ref b8), .val (.int (v0_0 q0 q1 p2 p3 p4 w_LINED w_SCATTERED w_C c_C j32_0 j46_0)), .val (.ref b8), .unset] [(.ref w_SCATTERED), (.ref w_SCATTERED)])) X9 hx rfl rfl rfl (pc0 := 149) (pc' := 152) (same := true) rfl (hb hby at_149) rfl (decide_eq_true rfl) (by decide) (by decide) k) ?_
                show OGo p e below s _ _ _ (T9.setTop (mkF m 152 #[.val (.long q0), .second, .val (.long q1), .second, .val (.int p2), .val (.int p3), .val (.int p4), .val (.int (f1 (1 : Int32) (p2 &&& (2147483647 : Int32)))), .val (.int j32_0), .val (.long j46_0), .second, .val (.ref w_SCATTERED), .val (.ref w_SCATTERED), .val (.ref b6), .val (.ref b8), .val (.int (v0_0 q0 q1 p2 p3 p4 w_LINED w_SCATTERED w_C c_C j32_0 j46_0)), .val (.ref b8), .unset] []))
                refine OGo.st (fun _ k => XS.iconst X9.here hx rfl (hb hby at_152) k) ?_
                show OGo p e below s _ _ _ (T9.setTop (mkF m 153 #[.val (.long q0), .second, .val (.long q1), .second, .val (.int p2), .val (.int p3), .val (.int p4), .val (.int (f1 (1 : Int32) (p2 &&& (2147483647 : Int32)))), .val (.int j32_0), .val (.long j46_0), .second, .val (.ref w_SCATTERED), .val (.ref w_SCATTERED), .val (.ref b6), .val (.ref b8), .val (.int (v0_0 q0 q1 p2 p3 p4 w_LINED w_SCATTERED w_C c_C j32_0 j46_0)), .val (.ref b8), .unset] [(.int (1 : Int32))]))
                refine OGo.st (fun _ k => XS.goto X9.here hx rfl (pc0 := 153) (pc' := 157) rfl (hb hby at_153) (by decide) (by decide) k) ?_
                show OGo p e below s _ _ _ (T9.setTop (mkF m 157 #[.val (.long q0), .second, .val (.long q1), .second, .val (.int p2), .val (.int p3), .val (.int p4), .val (.int (f1 (1 : Int32) (p2 &&& (2147483647 : Int32)))), .val (.int j32_0), .val (.long j46_0), .second, .val (.ref w_SCATTERED), .val (.ref w_SCATTERED), .val (.ref b6), .val (.ref b8), .val (.int (v0_0 q0 q1 p2 p3 p4 w_LINED w_SCATTERED w_C c_C j32_0 j46_0)), .val (.ref b8), .unset] [(.int (1 : Int32))]))
                refine OGo.st (fun _ k => XS.istore X9.here hx rfl (hb hby at_157) rfl (l' := #[.val (.long q0), .second, .val (.long q1), .second, .val (.int p2), .val (.int p3), .val (.int p4), .val (.int (f1 (1 : Int32) (p2 &&& (2147483647 : Int32)))), .val (.int j32_0), .val (.long j46_0), .second, .val (.ref w_SCATTERED), .val (.ref w_SCATTERED), .val (.ref b6), .val (.ref b8), .val (.int (v0_0 q0 q1 p2 p3 p4 w_LINED w_SCATTERED w_C c_C j32_0 j46_0)), .val (.ref b8), .val (.int (1 : Int32))]) rfl k) ?_
                show OGo p e below s _ _ _ (T9.setTop (mkF m 159 #[.val (.long q0), .second, .val (.long q1), .second, .val (.int p2), .val (.int p3), .val (.int p4), .val (.int (f1 (1 : Int32) (p2 &&& (2147483647 : Int32)))), .val (.int j32_0), .val (.long j46_0), .second, .val (.ref w_SCATTERED), .val (.ref w_SCATTERED), .val (.ref b6), .val (.ref b8), .val (.int (v0_0 q0 q1 p2 p3 p4 w_LINED w_SCATTERED w_C c_C j32_0 j46_0)), .val (.ref b8), .val (.int (1 : Int32))] []))
                refine OGo.st (fun _ k => XS.goto X9.here hx rfl (pc0 := 159) (pc' := 202) rfl (hb hby at_159) (by decide) (by decide) k) ?_
                show OGo p e below s _ _ _ (T9.setTop (mkF m 202 #[.val (.long q0), .second, .val (.long q1), .second, .val (.int p2), .val (.int p3), .val (.int p4), .val (.int (f1 (1 : Int32) (p2 &&& (2147483647 : Int32)))), .val (.int j32_0), .val (.long j46_0), .second, .val (.ref w_SCATTERED), .val (.ref w_SCATTERED), .val (.ref b6), .val (.ref b8), .val (.int (v0_0 q0 q1 p2 p3 p4 w_LINED w_SCATTERED w_C c_C j32_0 j46_0)), .val (.ref b8), .val (.int (1 : Int32))] []))
                refine OGo.st (fun _ k => XS.aload X9.here hx rfl (hb hby at_202) rfl rfl k) ?_
                show OGo p e below s _ _ _ (T9.setTop (mkF m 204 #[.val (.long q0), .second, .val (.long q1), .second, .val (.int p2), .val (.int p3), .val (.int p4), .val (.int (f1 (1 : Int32) (p2 &&& (2147483647 : Int32)))), .val (.int j32_0), .val (.long j46_0), .second, .val (.ref w_SCATTERED), .val (.ref w_SCATTERED), .val (.ref b6), .val (.ref b8), .val (.int (v0_0 q0 q1 p2 p3 p4 w_LINED w_SCATTERED w_C c_C j32_0 j46_0)), .val (.ref b8), .val (.int (1 : Int32))] [(.ref b6)]))
                refine OGo.st (fun _ k => XS.aload X9.here hx rfl (hb hby at_204) rfl rfl k) ?_
                show OGo p e below s _ _ _ (T9.setTop (mkF m 206 #[.val (.long q0), .second, .val (.long q1), .second, .val (.int p2), .val (.int p3), .val (.int p4), .val (.int (f1 (1 : Int32) (p2 &&& (2147483647 : Int32)))), .val (.int j32_0), .val (.long j46_0), .second, .val (.ref w_SCATTERED), .val (.ref w_SCATTERED), .val (.ref b6), .val (.ref b8), .val (.int (v0_0 q0 q1 p2 p3 p4 w_LINED w_SCATTERED w_C c_C j32_0 j46_0)), .val (.ref b8), .val (.int (1 : Int32))] [(.ref b8), (.ref b6)]))
                obtain ⟨cq10, kq10, q10a, q10b, q10c⟩ := isOf hZ rfl A6_w9
                obtain ⟨_, _, ⟨T10, L10, k10, n10⟩, -, X10, ⟨Lc10, hQ10, l10, y10, z10⟩, st10⟩ := X9.virtualBack hx (y := (⟨"com/example/hazy_set/hazyset/BloomShape", "equals", "(Ljava/lang/Object;)Z"⟩ : MethodName)) (z := (⟨"com/example/hazy_set/hazyset/BloomShape", "equals", "(Ljava/lang/Object;)Z"⟩ : MethodName)) hown (mvT hZ (hw _ (List.mem_of_getElem? (i := 46) rfl))) (mvT hZ (hw _ (List.mem_of_getElem? (i := 47) rfl))) (notFace_of_selects (args := #[]) (mvT hZ (hw _ (List.mem_of_getElem? (i := 49) rfl)))) (mvT hZ (hw _ (List.mem_of_getElem? (i := 49) rfl))) (mvT hZ (hw _ (List.mem_of_getElem? (i := 48) rfl))) (by decide) (backOf (W := 0) (rm6B l Z a0 hw [] b6 b8 q0 (f1 (1 : Int32) (p2 &&& (2147483647 : Int32))) w_SCATTERED j46_0 j32_0 w_SCATTERED T9.heap n0 Z9 A6_w9 G7_0_w9 G7_1_w9 G7_2_w9 A8_w9 G9_0 G9_1 G9_2) hZ (hw _ (List.mem_of_getElem? (i := 50) rfl)) (hw _ (List.mem_of_getElem? (i := 10) rfl)) (by decide) (by decide)) q10a q10c (g := (mkF m 206 #[.val (.long q0), .second, .val (.long q1), .second, .val (.int p2), .val (.int p3), .val (.int p4), .val (.int (f1 (1 : Int32) (p2 &&& (2147483647 : Int32)))), .val (.int j32_0), .val (.long j46_0), .second, .val (.ref w_SCATTERED), .val (.ref w_SCATTERED), .val (.ref b6), .val (.ref b8), .val (.int (v0_0 q0 q1 p2 p3 p4 w_LINED w_SCATTERED w_C c_C j32_0 j46_0)), .val (.ref b8), .val (.int (1 : Int32))] [(.ref b8), (.ref b6)])) rfl (by rw [hml]; rfl) (Steps.refl _) (argsL := [(.ref b8)]) (rest := []) (lenOf pd_0_2 rfl) rfl (by show 2 * 0 + _ ≤ _; exact Nat.le_of_eq rfl) (hb hby at_206) (fun _ _ => ⟨rfl, rfl, (by decide : 2 + 0 ≤ _), (by decide : 14 + 0 ≤ _)⟩)
                dsimp only [Pt.U, Pt.locs, Pt.cells, Pt.slots] at X10 l10 y10 z10 st10 hQ10
                subst l10 y10 z10
                obtain ⟨rfl, N10q, e10⟩ := hQ10
                have N10 := Fr.app N9 N10q
                refine OGo.st (fun _ k => st10.trans k) ?_
                show OGo p e below s _ _ _ (T10.setTop (mkF m 209 #[.val (.long q0), .second, .val (.long q1), .second, .val (.int p2), .val (.int p3), .val (.int p4), .val (.int (f1 (1 : Int32) (p2 &&& (2147483647 : Int32)))), .val (.int j32_0), .val (.long j46_0), .second, .val (.ref w_SCATTERED), .val (.ref w_SCATTERED), .val (.ref b6), .val (.ref b8), .val (.int (v0_0 q0 q1 p2 p3 p4 w_LINED w_SCATTERED w_C c_C j32_0 j46_0)), .val (.ref b8), .val (.int (1 : Int32))] [(.int (f6B q0 (f1 (1 : Int32) (p2 &&& (2147483647 : Int32))) w_SCATTERED j46_0 j32_0 w_SCATTERED))]))
                refine OGo.st (fun _ k => XS.iload X10.here hx rfl (hb hby at_209) rfl k) ?_
                show OGo p e below s _ _ _ (T10.setTop (mkF m 211 #[.val (.long q0), .second, .val (.long q1), .second, .val (.int p2), .val (.int p3), .val (.int p4), .val (.int (f1 (1 : Int32) (p2 &&& (2147483647 : Int32)))), .val (.int j32_0), .val (.long j46_0), .second, .val (.ref w_SCATTERED), .val (.ref w_SCATTERED), .val (.ref b6), .val (.ref b8), .val (.int (v0_0 q0 q1 p2 p3 p4 w_LINED w_SCATTERED w_C c_C j32_0 j46_0)), .val (.ref b8), .val (.int (1 : Int32))] [(.int (1 : Int32)), (.int (f6B q0 (f1 (1 : Int32) (p2 &&& (2147483647 : Int32))) w_SCATTERED j46_0 j32_0 w_SCATTERED))]))
                by_cases hc211 : (f6B q0 (f1 (1 : Int32) (p2 &&& (2147483647 : Int32))) w_SCATTERED j46_0 j32_0 w_SCATTERED) = (1 : Int32)
                · refine OGo.st (fun _ k => XS.icmpNo X10.here hx rfl (hb hby at_211) rfl (teq hc211).2 k) ?_
                  show OGo p e below s _ _ _ (T10.setTop (mkF m 214 #[.val (.long q0), .second, .val (.long q1), .second, .val (.int p2), .val (.int p3), .val (.int p4), .val (.int (f1 (1 : Int32) (p2 &&& (2147483647 : Int32)))), .val (.int j32_0), .val (.long j46_0), .second, .val (.ref w_SCATTERED), .val (.ref w_SCATTERED), .val (.ref b6), .val (.ref b8), .val (.int (v0_0 q0 q1 p2 p3 p4 w_LINED w_SCATTERED w_C c_C j32_0 j46_0)), .val (.ref b8), .val (.int (1 : Int32))] []))
                  refine OGo.st (fun _ k => XS.iconst X10.here hx rfl (hb hby at_214) k) ?_
                  show OGo p e below s _ _ _ (T10.setTop (mkF m 215 #[.val (.long q0), .second, .val (.long q1), .second, .val (.int p2), .val (.int p3), .val (.int p4), .val (.int (f1 (1 : Int32) (p2 &&& (2147483647 : Int32)))), .val (.int j32_0), .val (.long j46_0), .second, .val (.ref w_SCATTERED), .val (.ref w_SCATTERED), .val (.ref b6), .val (.ref b8), .val (.int (v0_0 q0 q1 p2 p3 p4 w_LINED w_SCATTERED w_C c_C j32_0 j46_0)), .val (.ref b8), .val (.int (1 : Int32))] [(.int (1 : Int32))]))
                  refine OGo.st (fun _ k => XS.goto X10.here hx rfl (pc0 := 215) (pc' := 219) rfl (hb hby at_215) (by decide) (by decide) k) ?_
                  show OGo p e below s _ _ _ (T10.setTop (mkF m 219 #[.val (.long q0), .second, .val (.long q1), .second, .val (.int p2), .val (.int p3), .val (.int p4), .val (.int (f1 (1 : Int32) (p2 &&& (2147483647 : Int32)))), .val (.int j32_0), .val (.long j46_0), .second, .val (.ref w_SCATTERED), .val (.ref w_SCATTERED), .val (.ref b6), .val (.ref b8), .val (.int (v0_0 q0 q1 p2 p3 p4 w_LINED w_SCATTERED w_C c_C j32_0 j46_0)), .val (.ref b8), .val (.int (1 : Int32))] [(.int (1 : Int32))]))
                  exact oretN X10 hx Bd.notSynchronized (t := .boolean) Bd.returns (by simp) (hb hby at_219) (z' := (1 : Int32)) (by decide) e10 ⟨(congrArg (fun z => some (Value.int z)) (show (1 : Int32) = f0 q0 q1 p2 p3 p4 w_LINED w_SCATTERED w_C c_C from Eq.symm (hf46_0.trans (by unfold f0_46; exact (if_pos hc52).trans ((if_pos hc71).trans ((if_pos hc124).trans ((if_pos hc135).trans ((if_pos hc142).trans (if_pos hc211))))))))), N10⟩ (by decide) (by decide)
                · refine OGo.st (fun _ k => XS.icmpYes X10.here hx rfl (pc0 := 211) (pc' := 218) rfl (hb hby at_211) rfl (feq hc211).2 (by decide) (by decide) k) ?_
                  show OGo p e below s _ _ _ (T10.setTop (mkF m 218 #[.val (.long q0), .second, .val (.long q1), .second, .val (.int p2), .val (.int p3), .val (.int p4), .val (.int (f1 (1 : Int32) (p2 &&& (2147483647 : Int32)))), .val (.int j32_0), .val (.long j46_0), .second, .val (.ref w_SCATTERED), .val (.ref w_SCATTERED), .val (.ref b6), .val (.ref b8), .val (.int (v0_0 q0 q1 p2 p3 p4 w_LINED w_SCATTERED w_C c_C j32_0 j46_0)), .val (.ref b8), .val (.int (1 : Int32))] []))
                  refine OGo.st (fun _ k => XS.iconst X10.here hx rfl (hb hby at_218) k) ?_
                  show OGo p e below s _ _ _ (T10.setTop (mkF m 219 #[.val (.long q0), .second, .val (.long q1), .second, .val (.int p2), .val (.int p3), .val (.int p4), .val (.int (f1 (1 : Int32) (p2 &&& (2147483647 : Int32)))), .val (.int j32_0), .val (.long j46_0), .second, .val (.ref w_SCATTERED), .val (.ref w_SCATTERED), .val (.ref b6), .val (.ref b8), .val (.int (v0_0 q0 q1 p2 p3 p4 w_LINED w_SCATTERED w_C c_C j32_0 j46_0)), .val (.ref b8), .val (.int (1 : Int32))] [(.int (0 : Int32))]))
                  exact oretN X10 hx Bd.notSynchronized (t := .boolean) Bd.returns (by simp) (hb hby at_219) (z' := (0 : Int32)) (by decide) e10 ⟨(congrArg (fun z => some (Value.int z)) (show (0 : Int32) = f0 q0 q1 p2 p3 p4 w_LINED w_SCATTERED w_C c_C from Eq.symm (hf46_0.trans (by unfold f0_46; exact (if_pos hc52).trans ((if_pos hc71).trans ((if_pos hc124).trans ((if_pos hc135).trans ((if_pos hc142).trans (if_neg hc211))))))))), N10⟩ (by decide) (by decide)
              · refine OGo.st (fun _ k => XS.icmpYes X9.here hx rfl (pc0 := 142) (pc' := 156) rfl (hb hby at_142) rfl (feq hc142).2 (by decide) (by decide) k) ?_
                show OGo p e below s _ _ _ (T9.setTop (mkF m 156 #[.val (.long q0), .second, .val (.long q1), .second, .val (.int p2), .val (.int p3), .val (.int p4), .val (.int (f1 (1 : Int32) (p2 &&& (2147483647 : Int32)))), .val (.int j32_0), .val (.long j46_0), .second, .val (.ref w_SCATTERED), .val (.ref w_SCATTERED), .val (.ref b6), .val (.ref b8), .val (.int (v0_0 q0 q1 p2 p3 p4 w_LINED w_SCATTERED w_C c_C j32_0 j46_0)), .val (.ref b8), .unset] []))
                refine OGo.st (fun _ k => XS.iconst X9.here hx rfl (hb hby at_156) k) ?_
                show OGo p e below s _ _ _ (T9.setTop (mkF m 157 #[.val (.long q0), .second, .val (.long q1), .second, .val (.int p2), .val (.int p3), .val (.int p4), .val (.int (f1 (1 : Int32) (p2 &&& (2147483647 : Int32)))), .val (.int j32_0), .val (.long j46_0), .second, .val (.ref w_SCATTERED), .val (.ref w_SCATTERED), .val (.ref b6), .val (.ref b8), .val (.int (v0_0 q0 q1 p2 p3 p4 w_LINED w_SCATTERED w_C c_C j32_0 j46_0)), .val (.ref b8), .unset] [(.int (0 : Int32))]))
                refine OGo.st (fun _ k => XS.istore X9.here hx rfl (hb hby at_157) rfl (l' := #[.val (.long q0), .second, .val (.long q1), .second, .val (.int p2), .val (.int p3), .val (.int p4), .val (.int (f1 (1 : Int32) (p2 &&& (2147483647 : Int32)))), .val (.int j32_0), .val (.long j46_0), .second, .val (.ref w_SCATTERED), .val (.ref w_SCATTERED), .val (.ref b6), .val (.ref b8), .val (.int (v0_0 q0 q1 p2 p3 p4 w_LINED w_SCATTERED w_C c_C j32_0 j46_0)), .val (.ref b8), .val (.int (0 : Int32))]) rfl k) ?_
                show OGo p e below s _ _ _ (T9.setTop (mkF m 159 #[.val (.long q0), .second, .val (.long q1), .second, .val (.int p2), .val (.int p3), .val (.int p4), .val (.int (f1 (1 : Int32) (p2 &&& (2147483647 : Int32)))), .val (.int j32_0), .val (.long j46_0), .second, .val (.ref w_SCATTERED), .val (.ref w_SCATTERED), .val (.ref b6), .val (.ref b8), .val (.int (v0_0 q0 q1 p2 p3 p4 w_LINED w_SCATTERED w_C c_C j32_0 j46_0)), .val (.ref b8), .val (.int (0 : Int32))] []))
                refine OGo.st (fun _ k => XS.goto X9.here hx rfl (pc0 := 159) (pc' := 202) rfl (hb hby at_159) (by decide) (by decide) k) ?_
                show OGo p e below s _ _ _ (T9.setTop (mkF m 202 #[.val (.long q0), .second, .val (.long q1), .second, .val (.int p2), .val (.int p3), .val (.int p4), .val (.int (f1 (1 : Int32) (p2 &&& (2147483647 : Int32)))), .val (.int j32_0), .val (.long j46_0), .second, .val (.ref w_SCATTERED), .val (.ref w_SCATTERED), .val (.ref b6), .val (.ref b8), .val (.int (v0_0 q0 q1 p2 p3 p4 w_LINED w_SCATTERED w_C c_C j32_0 j46_0)), .val (.ref b8), .val (.int (0 : Int32))] []))
                refine OGo.st (fun _ k => XS.aload X9.here hx rfl (hb hby at_202) rfl rfl k) ?_
                show OGo p e below s _ _ _ (T9.setTop (mkF m 204 #[.val (.long q0), .second, .val (.long q1), .second, .val (.int p2), .val (.int p3), .val (.int p4), .val (.int (f1 (1 : Int32) (p2 &&& (2147483647 : Int32)))), .val (.int j32_0), .val (.long j46_0), .second, .val (.ref w_SCATTERED), .val (.ref w_SCATTERED), .val (.ref b6), .val (.ref b8), .val (.int (v0_0 q0 q1 p2 p3 p4 w_LINED w_SCATTERED w_C c_C j32_0 j46_0)), .val (.ref b8), .val (.int (0 : Int32))] [(.ref b6)]))
                refine OGo.st (fun _ k => XS.aload X9.here hx rfl (hb hby at_204) rfl rfl k) ?_
                show OGo p e below s _ _ _ (T9.setTop (mkF m 206 #[.val (.long q0), .second, .val (.long q1), .second, .val (.int p2), .val (.int p3), .val (.int p4), .val (.int (f1 (1 : Int32) (p2 &&& (2147483647 : Int32)))), .val (.int j32_0), .val (.long j46_0), .second, .val (.ref w_SCATTERED), .val (.ref w_SCATTERED), .val (.ref b6), .val (.ref b8), .val (.int (v0_0 q0 q1 p2 p3 p4 w_LINED w_SCATTERED w_C c_C j32_0 j46_0)), .val (.ref b8), .val (.int (0 : Int32))] [(.ref b8), (.ref b6)]))
                obtain ⟨cq11, kq11, q11a, q11b, q11c⟩ := isOf hZ rfl A6_w9
                obtain ⟨_, _, ⟨T11, L11, k11, n11⟩, -, X11, ⟨Lc11, hQ11, l11, y11, z11⟩, st11⟩ := X9.virtualBack hx (y := (⟨"com/example/hazy_set/hazyset/BloomShape", "equals", "(Ljava/lang/Object;)Z"⟩ : MethodName)) (z := (⟨"com/example/hazy_set/hazyset/BloomShape", "equals", "(Ljava/lang/Object;)Z"⟩ : MethodName)) hown (mvT hZ (hw _ (List.mem_of_getElem? (i := 46) rfl))) (mvT hZ (hw _ (List.mem_of_getElem? (i := 47) rfl))) (notFace_of_selects (args := #[]) (mvT hZ (hw _ (List.mem_of_getElem? (i := 49) rfl)))) (mvT hZ (hw _ (List.mem_of_getElem? (i := 49) rfl))) (mvT hZ (hw _ (List.mem_of_getElem? (i := 48) rfl))) (by decide) (backOf (W := 0) (rm6B l Z a0 hw [] b6 b8 q0 (f1 (1 : Int32) (p2 &&& (2147483647 : Int32))) w_SCATTERED j46_0 j32_0 w_SCATTERED T9.heap n0 Z9 A6_w9 G7_0_w9 G7_1_w9 G7_2_w9 A8_w9 G9_0 G9_1 G9_2) hZ (hw _ (List.mem_of_getElem? (i := 50) rfl)) (hw _ (List.mem_of_getElem? (i := 10) rfl)) (by decide) (by decide)) q11a q11c (g := (mkF m 206 #[.val (.long q0), .second, .val (.long q1), .second, .val (.int p2), .val (.int p3), .val (.int p4), .val (.int (f1 (1 : Int32) (p2 &&& (2147483647 : Int32)))), .val (.int j32_0), .val (.long j46_0), .second, .val (.ref w_SCATTERED), .val (.ref w_SCATTERED), .val (.ref b6), .val (.ref b8), .val (.int (v0_0 q0 q1 p2 p3 p4 w_LINED w_SCATTERED w_C c_C j32_0 j46_0)), .val (.ref b8), .val (.int (0 : Int32))] [(.ref b8), (.ref b6)])) rfl (by rw [hml]; rfl) (Steps.refl _) (argsL := [(.ref b8)]) (rest := []) (lenOf pd_0_2 rfl) rfl (by show 2 * 0 + _ ≤ _; exact Nat.le_of_eq rfl) (hb hby at_206) (fun _ _ => ⟨rfl, rfl, (by decide : 2 + 0 ≤ _), (by decide : 14 + 0 ≤ _)⟩)
                dsimp only [Pt.U, Pt.locs, Pt.cells, Pt.slots] at X11 l11 y11 z11 st11 hQ11
                subst l11 y11 z11
                obtain ⟨rfl, N11q, e11⟩ := hQ11
                have N11 := Fr.app N9 N11q
                refine OGo.st (fun _ k => st11.trans k) ?_
                show OGo p e below s _ _ _ (T11.setTop (mkF m 209 #[.val (.long q0), .second, .val (.long q1), .second, .val (.int p2), .val (.int p3), .val (.int p4), .val (.int (f1 (1 : Int32) (p2 &&& (2147483647 : Int32)))), .val (.int j32_0), .val (.long j46_0), .second, .val (.ref w_SCATTERED), .val (.ref w_SCATTERED), .val (.ref b6), .val (.ref b8), .val (.int (v0_0 q0 q1 p2 p3 p4 w_LINED w_SCATTERED w_C c_C j32_0 j46_0)), .val (.ref b8), .val (.int (0 : Int32))] [(.int (f6B q0 (f1 (1 : Int32) (p2 &&& (2147483647 : Int32))) w_SCATTERED j46_0 j32_0 w_SCATTERED))]))
                refine OGo.st (fun _ k => XS.iload X11.here hx rfl (hb hby at_209) rfl k) ?_
                show OGo p e below s _ _ _ (T11.setTop (mkF m 211 #[.val (.long q0), .second, .val (.long q1), .second, .val (.int p2), .val (.int p3), .val (.int p4), .val (.int (f1 (1 : Int32) (p2 &&& (2147483647 : Int32)))), .val (.int j32_0), .val (.long j46_0), .second, .val (.ref w_SCATTERED), .val (.ref w_SCATTERED), .val (.ref b6), .val (.ref b8), .val (.int (v0_0 q0 q1 p2 p3 p4 w_LINED w_SCATTERED w_C c_C j32_0 j46_0)), .val (.ref b8), .val (.int (0 : Int32))] [(.int (0 : Int32)), (.int (f6B q0 (f1 (1 : Int32) (p2 &&& (2147483647 : Int32))) w_SCATTERED j46_0 j32_0 w_SCATTERED))]))
                by_cases hc211 : (f6B q0 (f1 (1 : Int32) (p2 &&& (2147483647 : Int32))) w_SCATTERED j46_0 j32_0 w_SCATTERED) = (0 : Int32)
                · refine OGo.st (fun _ k => XS.icmpNo X11.here hx rfl (hb hby at_211) rfl (teq hc211).2 k) ?_
                  show OGo p e below s _ _ _ (T11.setTop (mkF m 214 #[.val (.long q0), .second, .val (.long q1), .second, .val (.int p2), .val (.int p3), .val (.int p4), .val (.int (f1 (1 : Int32) (p2 &&& (2147483647 : Int32)))), .val (.int j32_0), .val (.long j46_0), .second, .val (.ref w_SCATTERED), .val (.ref w_SCATTERED), .val (.ref b6), .val (.ref b8), .val (.int (v0_0 q0 q1 p2 p3 p4 w_LINED w_SCATTERED w_C c_C j32_0 j46_0)), .val (.ref b8), .val (.int (0 : Int32))] []))
                  refine OGo.st (fun _ k => XS.iconst X11.here hx rfl (hb hby at_214) k) ?_
                  show OGo p e below s _ _ _ (T11.setTop (mkF m 215 #[.val (.long q0), .second, .val (.long q1), .second, .val (.int p2), .val (.int p3), .val (.int p4), .val (.int (f1 (1 : Int32) (p2 &&& (2147483647 : Int32)))), .val (.int j32_0), .val (.long j46_0), .second, .val (.ref w_SCATTERED), .val (.ref w_SCATTERED), .val (.ref b6), .val (.ref b8), .val (.int (v0_0 q0 q1 p2 p3 p4 w_LINED w_SCATTERED w_C c_C j32_0 j46_0)), .val (.ref b8), .val (.int (0 : Int32))] [(.int (1 : Int32))]))
                  refine OGo.st (fun _ k => XS.goto X11.here hx rfl (pc0 := 215) (pc' := 219) rfl (hb hby at_215) (by decide) (by decide) k) ?_
                  show OGo p e below s _ _ _ (T11.setTop (mkF m 219 #[.val (.long q0), .second, .val (.long q1), .second, .val (.int p2), .val (.int p3), .val (.int p4), .val (.int (f1 (1 : Int32) (p2 &&& (2147483647 : Int32)))), .val (.int j32_0), .val (.long j46_0), .second, .val (.ref w_SCATTERED), .val (.ref w_SCATTERED), .val (.ref b6), .val (.ref b8), .val (.int (v0_0 q0 q1 p2 p3 p4 w_LINED w_SCATTERED w_C c_C j32_0 j46_0)), .val (.ref b8), .val (.int (0 : Int32))] [(.int (1 : Int32))]))
                  exact oretN X11 hx Bd.notSynchronized (t := .boolean) Bd.returns (by simp) (hb hby at_219) (z' := (1 : Int32)) (by decide) e11 ⟨(congrArg (fun z => some (Value.int z)) (show (1 : Int32) = f0 q0 q1 p2 p3 p4 w_LINED w_SCATTERED w_C c_C from Eq.symm (hf46_0.trans (by unfold f0_46; exact (if_pos hc52).trans ((if_pos hc71).trans ((if_pos hc124).trans ((if_pos hc135).trans ((if_neg hc142).trans (if_pos hc211))))))))), N11⟩ (by decide) (by decide)
                · refine OGo.st (fun _ k => XS.icmpYes X11.here hx rfl (pc0 := 211) (pc' := 218) rfl (hb hby at_211) rfl (feq hc211).2 (by decide) (by decide) k) ?_
                  show OGo p e below s _ _ _ (T11.setTop (mkF m 218 #[.val (.long q0), .second, .val (.long q1), .second, .val (.int p2), .val (.int p3), .val (.int p4), .val (.int (f1 (1 : Int32) (p2 &&& (2147483647 : Int32)))), .val (.int j32_0), .val (.long j46_0), .second, .val (.ref w_SCATTERED), .val (.ref w_SCATTERED), .val (.ref b6), .val (.ref b8), .val (.int (v0_0 q0 q1 p2 p3 p4 w_LINED w_SCATTERED w_C c_C j32_0 j46_0)), .val (.ref b8), .val (.int (0 : Int32))] []))
                  refine OGo.st (fun _ k => XS.iconst X11.here hx rfl (hb hby at_218) k) ?_
                  show OGo p e below s _ _ _ (T11.setTop (mkF m 219 #[.val (.long q0), .second, .val (.long q1), .second, .val (.int p2), .val (.int p3), .val (.int p4), .val (.int (f1 (1 : Int32) (p2 &&& (2147483647 : Int32)))), .val (.int j32_0), .val (.long j46_0), .second, .val (.ref w_SCATTERED), .val (.ref w_SCATTERED), .val (.ref b6), .val (.ref b8), .val (.int (v0_0 q0 q1 p2 p3 p4 w_LINED w_SCATTERED w_C c_C j32_0 j46_0)), .val (.ref b8), .val (.int (0 : Int32))] [(.int (0 : Int32))]))
                  exact oretN X11 hx Bd.notSynchronized (t := .boolean) Bd.returns (by simp) (hb hby at_219) (z' := (0 : Int32)) (by decide) e11 ⟨(congrArg (fun z => some (Value.int z)) (show (0 : Int32) = f0 q0 q1 p2 p3 p4 w_LINED w_SCATTERED w_C c_C from Eq.symm (hf46_0.trans (by unfold f0_46; exact (if_pos hc52).trans ((if_pos hc71).trans ((if_pos hc124).trans ((if_pos hc135).trans ((if_neg hc142).trans (if_neg hc211))))))))), N11⟩ (by decide) (by decide)
            · refine OGo.st (fun _ k => XS.ifYes X9.here hx rfl (pc0 := 135) (pc' := 156) rfl (hb hby at_135) rfl ((if0 _ _).trans (feq (fun z => hc135 ((olc_eq _ _).mp z))).2) (by decide) (by decide) k) ?_
              show OGo p e below s _ _ _ (T9.setTop (mkF m 156 #[.val (.long q0), .second, .val (.long q1), .second, .val (.int p2), .val (.int p3), .val (.int p4), .val (.int (f1 (1 : Int32) (p2 &&& (2147483647 : Int32)))), .val (.int j32_0), .val (.long j46_0), .second, .val (.ref w_SCATTERED), .val (.ref w_SCATTERED), .val (.ref b6), .val (.ref b8), .val (.int (v0_0 q0 q1 p2 p3 p4 w_LINED w_SCATTERED w_C c_C j32_0 j46_0)), .val (.ref b8), .unset] []))
              refine OGo.st (fun _ k => XS.iconst X9.here hx rfl (hb hby at_156) k) ?_
              show OGo p e below s _ _ _ (T9.setTop (mkF m 157 #[.val (.long q0), .second, .val (.long q1), .second, .val (.int p2), .val (.int p3), .val (.int p4), .val (.int (f1 (1 : Int32) (p2 &&& (2147483647 : Int32)))), .val (.int j32_0), .val (.long j46_0), .second, .val (.ref w_SCATTERED), .val (.ref w_SCATTERED), .val (.ref b6), .val (.ref b8), .val (.int (v0_0 q0 q1 p2 p3 p4 w_LINED w_SCATTERED w_C c_C j32_0 j46_0)), .val (.ref b8), .unset] [(.int (0 : Int32))]))
              refine OGo.st (fun _ k => XS.istore X9.here hx rfl (hb hby at_157) rfl (l' := #[.val (.long q0), .second, .val (.long q1), .second, .val (.int p2), .val (.int p3), .val (.int p4), .val (.int (f1 (1 : Int32) (p2 &&& (2147483647 : Int32)))), .val (.int j32_0), .val (.long j46_0), .second, .val (.ref w_SCATTERED), .val (.ref w_SCATTERED), .val (.ref b6), .val (.ref b8), .val (.int (v0_0 q0 q1 p2 p3 p4 w_LINED w_SCATTERED w_C c_C j32_0 j46_0)), .val (.ref b8), .val (.int (0 : Int32))]) rfl k) ?_
              show OGo p e below s _ _ _ (T9.setTop (mkF m 159 #[.val (.long q0), .second, .val (.long q1), .second, .val (.int p2), .val (.int p3), .val (.int p4), .val (.int (f1 (1 : Int32) (p2 &&& (2147483647 : Int32)))), .val (.int j32_0), .val (.long j46_0), .second, .val (.ref w_SCATTERED), .val (.ref w_SCATTERED), .val (.ref b6), .val (.ref b8), .val (.int (v0_0 q0 q1 p2 p3 p4 w_LINED w_SCATTERED w_C c_C j32_0 j46_0)), .val (.ref b8), .val (.int (0 : Int32))] []))
              refine OGo.st (fun _ k => XS.goto X9.here hx rfl (pc0 := 159) (pc' := 202) rfl (hb hby at_159) (by decide) (by decide) k) ?_
              show OGo p e below s _ _ _ (T9.setTop (mkF m 202 #[.val (.long q0), .second, .val (.long q1), .second, .val (.int p2), .val (.int p3), .val (.int p4), .val (.int (f1 (1 : Int32) (p2 &&& (2147483647 : Int32)))), .val (.int j32_0), .val (.long j46_0), .second, .val (.ref w_SCATTERED), .val (.ref w_SCATTERED), .val (.ref b6), .val (.ref b8), .val (.int (v0_0 q0 q1 p2 p3 p4 w_LINED w_SCATTERED w_C c_C j32_0 j46_0)), .val (.ref b8), .val (.int (0 : Int32))] []))
              refine OGo.st (fun _ k => XS.aload X9.here hx rfl (hb hby at_202) rfl rfl k) ?_
              show OGo p e below s _ _ _ (T9.setTop (mkF m 204 #[.val (.long q0), .second, .val (.long q1), .second, .val (.int p2), .val (.int p3), .val (.int p4), .val (.int (f1 (1 : Int32) (p2 &&& (2147483647 : Int32)))), .val (.int j32_0), .val (.long j46_0), .second, .val (.ref w_SCATTERED), .val (.ref w_SCATTERED), .val (.ref b6), .val (.ref b8), .val (.int (v0_0 q0 q1 p2 p3 p4 w_LINED w_SCATTERED w_C c_C j32_0 j46_0)), .val (.ref b8), .val (.int (0 : Int32))] [(.ref b6)]))
              refine OGo.st (fun _ k => XS.aload X9.here hx rfl (hb hby at_204) rfl rfl k) ?_
              show OGo p e below s _ _ _ (T9.setTop (mkF m 206 #[.val (.long q0), .second, .val (.long q1), .second, .val (.int p2), .val (.int p3), .val (.int p4), .val (.int (f1 (1 : Int32) (p2 &&& (2147483647 : Int32)))), .val (.int j32_0), .val (.long j46_0), .second, .val (.ref w_SCATTERED), .val (.ref w_SCATTERED), .val (.ref b6), .val (.ref b8), .val (.int (v0_0 q0 q1 p2 p3 p4 w_LINED w_SCATTERED w_C c_C j32_0 j46_0)), .val (.ref b8), .val (.int (0 : Int32))] [(.ref b8), (.ref b6)]))
              obtain ⟨cq12, kq12, q12a, q12b, q12c⟩ := isOf hZ rfl A6_w9
              obtain ⟨_, _, ⟨T12, L12, k12, n12⟩, -, X12, ⟨Lc12, hQ12, l12, y12, z12⟩, st12⟩ := X9.virtualBack hx (y := (⟨"com/example/hazy_set/hazyset/BloomShape", "equals", "(Ljava/lang/Object;)Z"⟩ : MethodName)) (z := (⟨"com/example/hazy_set/hazyset/BloomShape", "equals", "(Ljava/lang/Object;)Z"⟩ : MethodName)) hown (mvT hZ (hw _ (List.mem_of_getElem? (i := 46) rfl))) (mvT hZ (hw _ (List.mem_of_getElem? (i := 47) rfl))) (notFace_of_selects (args := #[]) (mvT hZ (hw _ (List.mem_of_getElem? (i := 49) rfl)))) (mvT hZ (hw _ (List.mem_of_getElem? (i := 49) rfl))) (mvT hZ (hw _ (List.mem_of_getElem? (i := 48) rfl))) (by decide) (backOf (W := 0) (rm6B l Z a0 hw [] b6 b8 q0 (f1 (1 : Int32) (p2 &&& (2147483647 : Int32))) w_SCATTERED j46_0 j32_0 w_SCATTERED T9.heap n0 Z9 A6_w9 G7_0_w9 G7_1_w9 G7_2_w9 A8_w9 G9_0 G9_1 G9_2) hZ (hw _ (List.mem_of_getElem? (i := 50) rfl)) (hw _ (List.mem_of_getElem? (i := 10) rfl)) (by decide) (by decide)) q12a q12c (g := (mkF m 206 #[.val (.long q0), .second, .val (.long q1), .second, .val (.int p2), .val (.int p3), .val (.int p4), .val (.int (f1 (1 : Int32) (p2 &&& (2147483647 : Int32)))), .val (.int j32_0), .val (.long j46_0), .second, .val (.ref w_SCATTERED), .val (.ref w_SCATTERED), .val (.ref b6), .val (.ref b8), .val (.int (v0_0 q0 q1 p2 p3 p4 w_LINED w_SCATTERED w_C c_C j32_0 j46_0)), .val (.ref b8), .val (.int (0 : Int32))] [(.ref b8), (.ref b6)])) rfl (by rw [hml]; rfl) (Steps.refl _) (argsL := [(.ref b8)]) (rest := []) (lenOf pd_0_2 rfl) rfl (by show 2 * 0 + _ ≤ _; exact Nat.le_of_eq rfl) (hb hby at_206) (fun _ _ => ⟨rfl, rfl, (by decide : 2 + 0 ≤ _), (by decide : 14 + 0 ≤ _)⟩)
              dsimp only [Pt.U, Pt.locs, Pt.cells, Pt.slots] at X12 l12 y12 z12 st12 hQ12
              subst l12 y12 z12
              obtain ⟨rfl, N12q, e12⟩ := hQ12
              have N12 := Fr.app N9 N12q
              refine OGo.st (fun _ k => st12.trans k) ?_
              show OGo p e below s _ _ _ (T12.setTop (mkF m 209 #[.val (.long q0), .second, .val (.long q1), .second, .val (.int p2), .val (.int p3), .val (.int p4), .val (.int (f1 (1 : Int32) (p2 &&& (2147483647 : Int32)))), .val (.int j32_0), .val (.long j46_0), .second, .val (.ref w_SCATTERED), .val (.ref w_SCATTERED), .val (.ref b6), .val (.ref b8), .val (.int (v0_0 q0 q1 p2 p3 p4 w_LINED w_SCATTERED w_C c_C j32_0 j46_0)), .val (.ref b8), .val (.int (0 : Int32))] [(.int (f6B q0 (f1 (1 : Int32) (p2 &&& (2147483647 : Int32))) w_SCATTERED j46_0 j32_0 w_SCATTERED))]))
              refine OGo.st (fun _ k => XS.iload X12.here hx rfl (hb hby at_209) rfl k) ?_
              show OGo p e below s _ _ _ (T12.setTop (mkF m 211 #[.val (.long q0), .second, .val (.long q1), .second, .val (.int p2), .val (.int p3), .val (.int p4), .val (.int (f1 (1 : Int32) (p2 &&& (2147483647 : Int32)))), .val (.int j32_0), .val (.long j46_0), .second, .val (.ref w_SCATTERED), .val (.ref w_SCATTERED), .val (.ref b6), .val (.ref b8), .val (.int (v0_0 q0 q1 p2 p3 p4 w_LINED w_SCATTERED w_C c_C j32_0 j46_0)), .val (.ref b8), .val (.int (0 : Int32))] [(.int (0 : Int32)), (.int (f6B q0 (f1 (1 : Int32) (p2 &&& (2147483647 : Int32))) w_SCATTERED j46_0 j32_0 w_SCATTERED))]))
              by_cases hc211 : (f6B q0 (f1 (1 : Int32) (p2 &&& (2147483647 : Int32))) w_SCATTERED j46_0 j32_0 w_SCATTERED) = (0 : Int32)
              · refine OGo.st (fun _ k => XS.icmpNo X12.here hx rfl (hb hby at_211) rfl (teq hc211).2 k) ?_
                show OGo p e below s _ _ _ (T12.setTop (mkF m 214 #[.val (.long q0), .second, .val (.long q1), .second, .val (.int p2), .val (.int p3), .val (.int p4), .val (.int (f1 (1 : Int32) (p2 &&& (2147483647 : Int32)))), .val (.int j32_0), .val (.long j46_0), .second, .val (.ref w_SCATTERED), .val (.ref w_SCATTERED), .val (.ref b6), .val (.ref b8), .val (.int (v0_0 q0 q1 p2 p3 p4 w_LINED w_SCATTERED w_C c_C j32_0 j46_0)), .val (.ref b8), .val (.int (0 : Int32))] []))
                refine OGo.st (fun _ k => XS.iconst X12.here hx rfl (hb hby at_214) k) ?_
                show OGo p e below s _ _ _ (T12.setTop (mkF m 215 #[.val (.long q0), .second, .val (.long q1), .second, .val (.int p2), .val (.int p3), .val (.int p4), .val (.int (f1 (1 : Int32) (p2 &&& (2147483647 : Int32)))), .val (.int j32_0), .val (.long j46_0), .second, .val (.ref w_SCATTERED), .val (.ref w_SCATTERED), .val (.ref b6), .val (.ref b8), .val (.int (v0_0 q0 q1 p2 p3 p4 w_LINED w_SCATTERED w_C c_C j32_0 j46_0)), .val (.ref b8), .val (.int (0 : Int32))] [(.int (1 : Int32))]))
                refine OGo.st (fun _ k => XS.goto X12.here hx rfl (pc0 := 215) (pc' := 219) rfl (hb hby at_215) (by decide) (by decide) k) ?_
                show OGo p e below s _ _ _ (T12.setTop (mkF m 219 #[.val (.long q0), .second, .val (.long q1), .second, .val (.int p2), .val (.int p3), .val (.int p4), .val (.int (f1 (1 : Int32) (p2 &&& (2147483647 : Int32)))), .val (.int j32_0), .val (.long j46_0), .second, .val (.ref w_SCATTERED), .val (.ref w_SCATTERED), .val (.ref b6), .val (.ref b8), .val (.int (v0_0 q0 q1 p2 p3 p4 w_LINED w_SCATTERED w_C c_C j32_0 j46_0)), .val (.ref b8), .val (.int (0 : Int32))] [(.int (1 : Int32))]))
                exact oretN X12 hx Bd.notSynchronized (t := .boolean) Bd.returns (by simp) (hb hby at_219) (z' := (1 : Int32)) (by decide) e12 ⟨(congrArg (fun z => some (Value.int z)) (show (1 : Int32) = f0 q0 q1 p2 p3 p4 w_LINED w_SCATTERED w_C c_C from Eq.symm (hf46_0.trans (by unfold f0_46; exact (if_pos hc52).trans ((if_pos hc71).trans ((if_pos hc124).trans ((if_neg hc135).trans (if_pos hc211)))))))), N12⟩ (by decide) (by decide)
              · refine OGo.st (fun _ k => XS.icmpYes X12.here hx rfl (pc0 := 211) (pc' := 218) rfl (hb hby at_211) rfl (feq hc211).2 (by decide) (by decide) k) ?_
                show OGo p e below s _ _ _ (T12.setTop (mkF m 218 #[.val (.long q0), .second, .val (.long q1), .second, .val (.int p2), .val (.int p3), .val (.int p4), .val (.int (f1 (1 : Int32) (p2 &&& (2147483647 : Int32)))), .val (.int j32_0), .val (.long j46_0), .second, .val (.ref w_SCATTERED), .val (.ref w_SCATTERED), .val (.ref b6), .val (.ref b8), .val (.int (v0_0 q0 q1 p2 p3 p4 w_LINED w_SCATTERED w_C c_C j32_0 j46_0)), .val (.ref b8), .val (.int (0 : Int32))] []))
                refine OGo.st (fun _ k => XS.iconst X12.here hx rfl (hb hby at_218) k) ?_
                show OGo p e below s _ _ _ (T12.setTop (mkF m 219 #[.val (.long q0), .second, .val (.long q1), .second, .val (.int p2), .val (.int p3), .val (.int p4), .val (.int (f1 (1 : Int32) (p2 &&& (2147483647 : Int32)))), .val (.int j32_0), .val (.long j46_0), .second, .val (.ref w_SCATTERED), .val (.ref w_SCATTERED), .val (.ref b6), .val (.ref b8), .val (.int (v0_0 q0 q1 p2 p3 p4 w_LINED w_SCATTERED w_C c_C j32_0 j46_0)), .val (.ref b8), .val (.int (0 : Int32))] [(.int (0 : Int32))]))
                exact oretN X12 hx Bd.notSynchronized (t := .boolean) Bd.returns (by simp) (hb hby at_219) (z' := (0 : Int32)) (by decide) e12 ⟨(congrArg (fun z => some (Value.int z)) (show (0 : Int32) = f0 q0 q1 p2 p3 p4 w_LINED w_SCATTERED w_C c_C from Eq.symm (hf46_0.trans (by unfold f0_46; exact (if_pos hc52).trans ((if_pos hc71).trans ((if_pos hc124).trans ((if_neg hc135).trans (if_neg hc211)))))))), N12⟩ (by decide) (by decide)
          · refine OGo.st (fun _ k => XS.ifYes X9.here hx rfl (pc0 := 124) (pc' := 162) rfl (hb hby at_124) rfl ((if0 _ _).trans (feq hc124).2) (by decide) (by decide) k) ?_
            show OGo p e below s _ _ _ (T9.setTop (mkF m 162 #[.val (.long q0), .second, .val (.long q1), .second, .val (.int p2), .val (.int p3), .val (.int p4), .val (.int (f1 (1 : Int32) (p2 &&& (2147483647 : Int32)))), .val (.int j32_0), .val (.long j46_0), .second, .val (.ref w_SCATTERED), .val (.ref w_SCATTERED), .val (.ref b6), .val (.ref b8), .val (.int (v0_0 q0 q1 p2 p3 p4 w_LINED w_SCATTERED w_C c_C j32_0 j46_0)), .unset, .unset] []))
            refine OGo.st (fun _ k => XS.iload X9.here hx rfl (hb hby at_162) rfl k) ?_
            show OGo p e below s _ _ _ (T9.setTop (mkF m 164 #[.val (.long q0), .second, .val (.long q1), .second, .val (.int p2), .val (.int p3), .val (.int p4), .val (.int (f1 (1 : Int32) (p2 &&& (2147483647 : Int32)))), .val (.int j32_0), .val (.long j46_0), .second, .val (.ref w_SCATTERED), .val (.ref w_SCATTERED), .val (.ref b6), .val (.ref b8), .val (.int (v0_0 q0 q1 p2 p3 p4 w_LINED w_SCATTERED w_C c_C j32_0 j46_0)), .unset, .unset] [(.int (v0_0 q0 q1 p2 p3 p4 w_LINED w_SCATTERED w_C c_C j32_0 j46_0))]))
            refine OGo.st (fun _ k => XS.iconst X9.here hx rfl (hb hby at_164) k) ?_
            show OGo p e below s _ _ _ (T9.setTop (mkF m 165 #[.val (.long q0), .second, .val (.long q1), .second, .val (.int p2), .val (.int p3), .val (.int p4), .val (.int (f1 (1 : Int32) (p2 &&& (2147483647 : Int32)))), .val (.int j32_0), .val (.long j46_0), .second, .val (.ref w_SCATTERED), .val (.ref w_SCATTERED), .val (.ref b6), .val (.ref b8), .val (.int (v0_0 q0 q1 p2 p3 p4 w_LINED w_SCATTERED w_C c_C j32_0 j46_0)), .unset, .unset] [(.int (1 : Int32)), (.int (v0_0 q0 q1 p2 p3 p4 w_LINED w_SCATTERED w_C c_C j32_0 j46_0))]))
            by_cases hc165 : (v0_0 q0 q1 p2 p3 p4 w_LINED w_SCATTERED w_C c_C j32_0 j46_0) = (1 : Int32)
            · refine OGo.st (fun _ k => XS.icmpNo X9.here hx rfl (hb hby at_165) rfl (teq hc165).2 k) ?_
              show OGo p e below s _ _ _ (T9.setTop (mkF m 168 #[.val (.long q0), .second, .val (.long q1), .second, .val (.int p2), .val (.int p3), .val (.int p4), .val (.int (f1 (1 : Int32) (p2 &&& (2147483647 : Int32)))), .val (.int j32_0), .val (.long j46_0), .second, .val (.ref w_SCATTERED), .val (.ref w_SCATTERED), .val (.ref b6), .val (.ref b8), .val (.int (v0_0 q0 q1 p2 p3 p4 w_LINED w_SCATTERED w_C c_C j32_0 j46_0)), .unset, .unset] []))
              refine OGo.st (fun _ k => XS.aconstNull X9.here hx rfl (hb hby at_168) k) ?_
              show OGo p e below s _ _ _ (T9.setTop (mkF m 169 #[.val (.long q0), .second, .val (.long q1), .second, .val (.int p2), .val (.int p3), .val (.int p4), .val (.int (f1 (1 : Int32) (p2 &&& (2147483647 : Int32)))), .val (.int j32_0), .val (.long j46_0), .second, .val (.ref w_SCATTERED), .val (.ref w_SCATTERED), .val (.ref b6), .val (.ref b8), .val (.int (v0_0 q0 q1 p2 p3 p4 w_LINED w_SCATTERED w_C c_C j32_0 j46_0)), .unset, .unset] [.null]))
              refine OGo.st (fun _ k => XS.astore X9.here hx rfl (hb hby at_169) rfl rfl (l' := #[.val (.long q0), .second, .val (.long q1), .second, .val (.int p2), .val (.int p3), .val (.int p4), .val (.int (f1 (1 : Int32) (p2 &&& (2147483647 : Int32)))), .val (.int j32_0), .val (.long j46_0), .second, .val (.ref w_SCATTERED), .val (.ref w_SCATTERED), .val (.ref b6), .val (.ref b8), .val (.int (v0_0 q0 q1 p2 p3 p4 w_LINED w_SCATTERED w_C c_C j32_0 j46_0)), .val .null, .unset]) rfl k) ?_
              show OGo p e below s _ _ _ (T9.setTop (mkF m 171 #[.val (.long q0), .second, .val (.long q1), .second, .val (.int p2), .val (.int p3), .val (.int p4), .val (.int (f1 (1 : Int32) (p2 &&& (2147483647 : Int32)))), .val (.int j32_0), .val (.long j46_0), .second, .val (.ref w_SCATTERED), .val (.ref w_SCATTERED), .val (.ref b6), .val (.ref b8), .val (.int (v0_0 q0 q1 p2 p3 p4 w_LINED w_SCATTERED w_C c_C j32_0 j46_0)), .val .null, .unset] []))
              refine OGo.st (fun _ k => XS.iconst X9.here hx rfl (hb hby at_171) k) ?_
              show OGo p e below s _ _ _ (T9.setTop (mkF m 172 #[.val (.long q0), .second, .val (.long q1), .second, .val (.int p2), .val (.int p3), .val (.int p4), .val (.int (f1 (1 : Int32) (p2 &&& (2147483647 : Int32)))), .val (.int j32_0), .val (.long j46_0), .second, .val (.ref w_SCATTERED), .val (.ref w_SCATTERED), .val (.ref b6), .val (.ref b8), .val (.int (v0_0 q0 q1 p2 p3 p4 w_LINED w_SCATTERED w_C c_C j32_0 j46_0)), .val .null, .unset] [(.int (0 : Int32))]))
              refine OGo.st (fun _ k => XS.istore X9.here hx rfl (hb hby at_172) rfl (l' := #[.val (.long q0), .second, .val (.long q1), .second, .val (.int p2), .val (.int p3), .val (.int p4), .val (.int (f1 (1 : Int32) (p2 &&& (2147483647 : Int32)))), .val (.int j32_0), .val (.long j46_0), .second, .val (.ref w_SCATTERED), .val (.ref w_SCATTERED), .val (.ref b6), .val (.ref b8), .val (.int (v0_0 q0 q1 p2 p3 p4 w_LINED w_SCATTERED w_C c_C j32_0 j46_0)), .val .null, .val (.int (0 : Int32))]) rfl k) ?_
              show OGo p e below s _ _ _ (T9.setTop (mkF m 174 #[.val (.long q0), .second, .val (.long q1), .second, .val (.int p2), .val (.int p3), .val (.int p4), .val (.int (f1 (1 : Int32) (p2 &&& (2147483647 : Int32)))), .val (.int j32_0), .val (.long j46_0), .second, .val (.ref w_SCATTERED), .val (.ref w_SCATTERED), .val (.ref b6), .val (.ref b8), .val (.int (v0_0 q0 q1 p2 p3 p4 w_LINED w_SCATTERED w_C c_C j32_0 j46_0)), .val .null, .val (.int (0 : Int32))] []))
              refine OGo.st (fun _ k => XS.goto X9.here hx rfl (pc0 := 174) (pc' := 202) rfl (hb hby at_174) (by decide) (by decide) k) ?_
              show OGo p e below s _ _ _ (T9.setTop (mkF m 202 #[.val (.long q0), .second, .val (.long q1), .second, .val (.int p2), .val (.int p3), .val (.int p4), .val (.int (f1 (1 : Int32) (p2 &&& (2147483647 : Int32)))), .val (.int j32_0), .val (.long j46_0), .second, .val (.ref w_SCATTERED), .val (.ref w_SCATTERED), .val (.ref b6), .val (.ref b8), .val (.int (v0_0 q0 q1 p2 p3 p4 w_LINED w_SCATTERED w_C c_C j32_0 j46_0)), .val .null, .val (.int (0 : Int32))] []))
              refine OGo.st (fun _ k => XS.aload X9.here hx rfl (hb hby at_202) rfl rfl k) ?_
              show OGo p e below s _ _ _ (T9.setTop (mkF m 204 #[.val (.long q0), .second, .val (.long q1), .second, .val (.int p2), .val (.int p3), .val (.int p4), .val (.int (f1 (1 : Int32) (p2 &&& (2147483647 : Int32)))), .val (.int j32_0), .val (.long j46_0), .second, .val (.ref w_SCATTERED), .val (.ref w_SCATTERED), .val (.ref b6), .val (.ref b8), .val (.int (v0_0 q0 q1 p2 p3 p4 w_LINED w_SCATTERED w_C c_C j32_0 j46_0)), .val .null, .val (.int (0 : Int32))] [(.ref b6)]))
              refine OGo.st (fun _ k => XS.aload X9.here hx rfl (hb hby at_204) rfl rfl k) ?_
              show OGo p e below s _ _ _ (T9.setTop (mkF m 206 #[.val (.long q0), .second, .val (.long q1), .second, .val (.int p2), .val (.int p3), .val (.int p4), .val (.int (f1 (1 : Int32) (p2 &&& (2147483647 : Int32)))), .val (.int j32_0), .val (.long j46_0), .second, .val (.ref w_SCATTERED), .val (.ref w_SCATTERED), .val (.ref b6), .val (.ref b8), .val (.int (v0_0 q0 q1 p2 p3 p4 w_LINED w_SCATTERED w_C c_C j32_0 j46_0)), .val .null, .val (.int (0 : Int32))] [.null, (.ref b6)]))
              obtain ⟨cq13, kq13, q13a, q13b, q13c⟩ := isOf hZ rfl A6_w9
              obtain ⟨_, _, ⟨T13, L13, k13, n13⟩, -, X13, ⟨Lc13, hQ13, l13, y13, z13⟩, st13⟩ := X9.virtualBack hx (y := (⟨"com/example/hazy_set/hazyset/BloomShape", "equals", "(Ljava/lang/Object;)Z"⟩ : MethodName)) (z := (⟨"com/example/hazy_set/hazyset/BloomShape", "equals", "(Ljava/lang/Object;)Z"⟩ : MethodName)) hown (mvT hZ (hw _ (List.mem_of_getElem? (i := 46) rfl))) (mvT hZ (hw _ (List.mem_of_getElem? (i := 47) rfl))) (notFace_of_selects (args := #[]) (mvT hZ (hw _ (List.mem_of_getElem? (i := 49) rfl)))) (mvT hZ (hw _ (List.mem_of_getElem? (i := 49) rfl))) (mvT hZ (hw _ (List.mem_of_getElem? (i := 48) rfl))) (by decide) (backOf (W := 0) (rm6N l Z a0 hw [] b6 T9.heap n0 Z9) hZ (hw _ (List.mem_of_getElem? (i := 50) rfl)) (hw _ (List.mem_of_getElem? (i := 10) rfl)) (by decide) (by decide)) q13a q13c (g := (mkF m 206 #[.val (.long q0), .second, .val (.long q1), .second, .val (.int p2), .val (.int p3), .val (.int p4), .val (.int (f1 (1 : Int32) (p2 &&& (2147483647 : Int32)))), .val (.int j32_0), .val (.long j46_0), .second, .val (.ref w_SCATTERED), .val (.ref w_SCATTERED), .val (.ref b6), .val (.ref b8), .val (.int (v0_0 q0 q1 p2 p3 p4 w_LINED w_SCATTERED w_C c_C j32_0 j46_0)), .val .null, .val (.int (0 : Int32))] [.null, (.ref b6)])) rfl (by rw [hml]; rfl) (Steps.refl _) (argsL := [.null]) (rest := []) (lenOf pd_0_2 rfl) rfl (by show 2 * 0 + _ ≤ _; exact Nat.le_of_eq rfl) (hb hby at_206) (fun _ _ => ⟨rfl, rfl, (by decide : 2 + 0 ≤ _), (by decide : 14 + 0 ≤ _)⟩)
              dsimp only [Pt.U, Pt.locs, Pt.cells, Pt.slots] at X13 l13 y13 z13 st13 hQ13
              subst l13 y13 z13
              obtain ⟨rfl, N13q, e13⟩ := hQ13
              have hl13 : (f6N) = (0 : Int32) := rfl
              have N13 := Fr.app N9 N13q
              refine OGo.st (fun _ k => st13.trans k) ?_
              show OGo p e below s _ _ _ (T13.setTop (mkF m 209 #[.val (.long q0), .second, .val (.long q1), .second, .val (.int p2), .val (.int p3), .val (.int p4), .val (.int (f1 (1 : Int32) (p2 &&& (2147483647 : Int32)))), .val (.int j32_0), .val (.long j46_0), .second, .val (.ref w_SCATTERED), .val (.ref w_SCATTERED), .val (.ref b6), .val (.ref b8), .val (.int (v0_0 q0 q1 p2 p3 p4 w_LINED w_SCATTERED w_C c_C j32_0 j46_0)), .val .null, .val (.int (0 : Int32))] [(.int (0 : Int32))]))
              refine OGo.st (fun _ k => XS.iload X13.here hx rfl (hb hby at_209) rfl k) ?_
              show OGo p e below s _ _ _ (T13.setTop (mkF m 211 #[.val (.long q0), .second, .val (.long q1), .second, .val (.int p2), .val (.int p3), .val (.int p4), .val (.int (f1 (1 : Int32) (p2 &&& (2147483647 : Int32)))), .val (.int j32_0), .val (.long j46_0), .second, .val (.ref w_SCATTERED), .val (.ref w_SCATTERED), .val (.ref b6), .val (.ref b8), .val (.int (v0_0 q0 q1 p2 p3 p4 w_LINED w_SCATTERED w_C c_C j32_0 j46_0)), .val .null, .val (.int (0 : Int32))] [(.int (0 : Int32)), (.int (0 : Int32))]))
              refine OGo.st (fun _ k => XS.icmpNo X13.here hx rfl (hb hby at_211) rfl (teq (by decide : (0 : Int32) = (0 : Int32))).2 k) ?_
              show OGo p e below s _ _ _ (T13.setTop (mkF m 214 #[.val (.long q0), .second, .val (.long q1), .second, .val (.int p2), .val (.int p3), .val (.int p4), .val (.int (f1 (1 : Int32) (p2 &&& (2147483647 : Int32)))), .val (.int j32_0), .val (.long j46_0), .second, .val (.ref w_SCATTERED), .val (.ref w_SCATTERED), .val (.ref b6), .val (.ref b8), .val (.int (v0_0 q0 q1 p2 p3 p4 w_LINED w_SCATTERED w_C c_C j32_0 j46_0)), .val .null, .val (.int (0 : Int32))] []))
              refine OGo.st (fun _ k => XS.iconst X13.here hx rfl (hb hby at_214) k) ?_
              show OGo p e below s _ _ _ (T13.setTop (mkF m 215 #[.val (.long q0), .second, .val (.long q1), .second, .val (.int p2), .val (.int p3), .val (.int p4), .val (.int (f1 (1 : Int32) (p2 &&& (2147483647 : Int32)))), .val (.int j32_0), .val (.long j46_0), .second, .val (.ref w_SCATTERED), .val (.ref w_SCATTERED), .val (.ref b6), .val (.ref b8), .val (.int (v0_0 q0 q1 p2 p3 p4 w_LINED w_SCATTERED w_C c_C j32_0 j46_0)), .val .null, .val (.int (0 : Int32))] [(.int (1 : Int32))]))
              refine OGo.st (fun _ k => XS.goto X13.here hx rfl (pc0 := 215) (pc' := 219) rfl (hb hby at_215) (by decide) (by decide) k) ?_
              show OGo p e below s _ _ _ (T13.setTop (mkF m 219 #[.val (.long q0), .second, .val (.long q1), .second, .val (.int p2), .val (.int p3), .val (.int p4), .val (.int (f1 (1 : Int32) (p2 &&& (2147483647 : Int32)))), .val (.int j32_0), .val (.long j46_0), .second, .val (.ref w_SCATTERED), .val (.ref w_SCATTERED), .val (.ref b6), .val (.ref b8), .val (.int (v0_0 q0 q1 p2 p3 p4 w_LINED w_SCATTERED w_C c_C j32_0 j46_0)), .val .null, .val (.int (0 : Int32))] [(.int (1 : Int32))]))
              exact oretN X13 hx Bd.notSynchronized (t := .boolean) Bd.returns (by simp) (hb hby at_219) (z' := (1 : Int32)) (by decide) e13 ⟨(congrArg (fun z => some (Value.int z)) (show (1 : Int32) = f0 q0 q1 p2 p3 p4 w_LINED w_SCATTERED w_C c_C from Eq.symm (hf46_0.trans (by unfold f0_46; exact (if_pos hc52).trans ((if_pos hc71).trans ((if_neg hc124).trans (if_pos hc165))))))), N13⟩ (by decide) (by decide)
            · refine OGo.st (fun _ k => XS.icmpYes X9.here hx rfl (pc0 := 165) (pc' := 177) rfl (hb hby at_165) rfl (feq hc165).2 (by decide) (by decide) k) ?_
              show OGo p e below s _ _ _ (T9.setTop (mkF m 177 #[.val (.long q0), .second, .val (.long q1), .second, .val (.int p2), .val (.int p3), .val (.int p4), .val (.int (f1 (1 : Int32) (p2 &&& (2147483647 : Int32)))), .val (.int j32_0), .val (.long j46_0), .second, .val (.ref w_SCATTERED), .val (.ref w_SCATTERED), .val (.ref b6), .val (.ref b8), .val (.int (v0_0 q0 q1 p2 p3 p4 w_LINED w_SCATTERED w_C c_C j32_0 j46_0)), .unset, .unset] []))
              refine OGo.st (fun _ k => XS.iload X9.here hx rfl (hb hby at_177) rfl k) ?_
              show OGo p e below s _ _ _ (T9.setTop (mkF m 179 #[.val (.long q0), .second, .val (.long q1), .second, .val (.int p2), .val (.int p3), .val (.int p4), .val (.int (f1 (1 : Int32) (p2 &&& (2147483647 : Int32)))), .val (.int j32_0), .val (.long j46_0), .second, .val (.ref w_SCATTERED), .val (.ref w_SCATTERED), .val (.ref b6), .val (.ref b8), .val (.int (v0_0 q0 q1 p2 p3 p4 w_LINED w_SCATTERED w_C c_C j32_0 j46_0)), .unset, .unset] [(.int (v0_0 q0 q1 p2 p3 p4 w_LINED w_SCATTERED w_C c_C j32_0 j46_0))]))
              refine OGo.st (fun _ k => XS.iconst X9.here hx rfl (hb hby at_179) k) ?_
              show OGo p e below s _ _ _ (T9.setTop (mkF m 180 #[.val (.long q0), .second, .val (.long q1), .second, .val (.int p2), .val (.int p3), .val (.int p4), .val (.int (f1 (1 : Int32) (p2 &&& (2147483647 : Int32)))), .val (.int j32_0), .val (.long j46_0), .second, .val (.ref w_SCATTERED), .val (.ref w_SCATTERED), .val (.ref b6), .val (.ref b8), .val (.int (v0_0 q0 q1 p2 p3 p4 w_LINED w_SCATTERED w_C c_C j32_0 j46_0)), .unset, .unset] [(.int (2 : Int32)), (.int (v0_0 q0 q1 p2 p3 p4 w_LINED w_SCATTERED w_C c_C j32_0 j46_0))]))
              by_cases hc180 : (v0_0 q0 q1 p2 p3 p4 w_LINED w_SCATTERED w_C c_C j32_0 j46_0) = (2 : Int32)
              · refine OGo.st (fun _ k => XS.icmpNo X9.here hx rfl (hb hby at_180) rfl (teq hc180).2 k) ?_
                show OGo p e below s _ _ _ (T9.setTop (mkF m 183 #[.val (.long q0), .second, .val (.long q1), .second, .val (.int p2), .val (.int p3), .val (.int p4), .val (.int (f1 (1 : Int32) (p2 &&& (2147483647 : Int32)))), .val (.int j32_0), .val (.long j46_0), .second, .val (.ref w_SCATTERED), .val (.ref w_SCATTERED), .val (.ref b6), .val (.ref b8), .val (.int (v0_0 q0 q1 p2 p3 p4 w_LINED w_SCATTERED w_C c_C j32_0 j46_0)), .unset, .unset] []))
                refine OGo.st (fun _ k => XS.lloadN X9.here hx rfl (hb hby at_183) rfl k) ?_
                show OGo p e below s _ _ _ (T9.setTop (mkF m 184 #[.val (.long q0), .second, .val (.long q1), .second, .val (.int p2), .val (.int p3), .val (.int p4), .val (.int (f1 (1 : Int32) (p2 &&& (2147483647 : Int32)))), .val (.int j32_0), .val (.long j46_0), .second, .val (.ref w_SCATTERED), .val (.ref w_SCATTERED), .val (.ref b6), .val (.ref b8), .val (.int (v0_0 q0 q1 p2 p3 p4 w_LINED w_SCATTERED w_C c_C j32_0 j46_0)), .unset, .unset] [(.long q0)]))
                obtain ⟨_, _, ⟨T14, L14, k14, n14⟩, -, X14, ⟨Lc14, hQ14, l14, y14, z14⟩, st14⟩ := Jvm.LawKit.callS X9 hx (y := (⟨"java/lang/Long", "valueOf", "(J)Ljava/lang/Long;"⟩ : MethodName)) hown (mvT hZ (hw _ (List.mem_of_getElem? (i := 55) rfl))) (mvT hZ (hw _ (List.mem_of_getElem? (i := 56) rfl))) (mvT hZ (hw _ (List.mem_of_getElem? (i := 57) rfl))) (mvT hZ (hw _ (List.mem_of_getElem? (i := 58) rfl))) (by decide) (backOf (W := 0) (rm7 l Z a0 hw [] q0 w_C (c_C) T9.heap n0 Z9 S_C_w9 hB (hZh ▸ K9)) hZ (hw _ (List.mem_of_getElem? (i := 58) rfl)) (hw _ (List.mem_of_getElem? (i := 57) rfl)) (by decide) (by decide)) (g := (mkF m 184 #[.val (.long q0), .second, .val (.long q1), .second, .val (.int p2), .val (.int p3), .val (.int p4), .val (.int (f1 (1 : Int32) (p2 &&& (2147483647 : Int32)))), .val (.int j32_0), .val (.long j46_0), .second, .val (.ref w_SCATTERED), .val (.ref w_SCATTERED), .val (.ref b6), .val (.ref b8), .val (.int (v0_0 q0 q1 p2 p3 p4 w_LINED w_SCATTERED w_C c_C j32_0 j46_0)), .unset, .unset] [(.long q0)])) rfl (by rw [hml]; rfl) (argsL := [(.long q0)]) (rest := []) (lenOf pd_0_3 rfl) rfl (by show 2 * 0 + _ ≤ _; exact Nat.le_of_eq rfl) (hb hby at_184) (fun _ _ => ⟨rfl, rfl, (by decide : 2 + 1 ≤ _), (by decide : 14 + 1 ≤ _)⟩)
                dsimp only [Pt.U, Pt.locs, Pt.cells, Pt.slots] at X14 l14 y14 z14 st14 hQ14
                subst l14 y14 z14
                obtain ⟨b14, rfl, N14q, Kc14, A14⟩ := hQ14
                have S_LINED_w14 := osta_keep S_LINED_w9 Kc14 (fun _ _ _ _ => nin0)
                have S_SCATTERED_w14 := osta_keep S_SCATTERED_w9 Kc14 (fun _ _ _ _ => nin0)
                have E_LINED_w14 := E_LINED_w9.keep Kc14
                have E_SCATTERED_w14 := E_SCATTERED_w9.keep Kc14
                have O_LINED_lineShift_w14 := O_LINED_lineShift_w9.keep Kc14 nin0
                have O_LINED_ordinal_w14 := O_LINED_ordinal_w9.keep Kc14 nin0
                have O_SCATTERED_lineShift_w14 := O_SCATTERED_lineShift_w9.keep Kc14 nin0
                have O_SCATTERED_ordinal_w14 := O_SCATTERED_ordinal_w9.keep Kc14 nin0
                have S_C_w14 := osta_keep S_C_w9 Kc14 (fun _ _ _ _ => nin0)
                have A6_w14 := A6_w9.keep Kc14
                have G7_0_w14 := G7_0_w9.keep Kc14 nin0
                have G7_1_w14 := G7_1_w9.keep Kc14 nin0
                have G7_2_w14 := G7_2_w9.keep Kc14 nin0
                have A8_w14 := A8_w9.keep Kc14
                have G9_0_w14 := G9_0.keep Kc14 nin0
                have G9_1_w14 := G9_1.keep Kc14 nin0
                have G9_2_w14 := G9_2.keep Kc14 nin0
                have K14 : Keep h0 T14.heap [] := (K9).trans Kc14 all0
                have Z14 : n0 ≤ T14.heap.size := Nat.le_trans Z9 Kc14.1
                have N14 := Fr.app N9 N14q
                refine OGo.st st14 ?_
                show OGo p e below s _ _ _ (T14.setTop (mkF m 187 #[.val (.long q0), .second, .val (.long q1), .second, .val (.int p2), .val (.int p3), .val (.int p4), .val (.int (f1 (1 : Int32) (p2 &&& (2147483647 : Int32)))), .val (.int j32_0), .val (.long j46_0), .second, .val (.ref w_SCATTERED), .val (.ref w_SCATTERED), .val (.ref b6), .val (.ref b8), .val (.int (v0_0 q0 q1 p2 p3 p4 w_LINED w_SCATTERED w_C c_C j32_0 j46_0)), .unset, .unset] [(.ref b14)]))
                refine OGo.st (fun _ k => XS.astore X14.here hx rfl (hb hby at_187) rfl rfl (l' := #[.val (.long q0), .second, .val (.long q1), .second, .val (.int p2), .val (.int p3), .val (.int p4), .val (.int (f1 (1 : Int32) (p2 &&& (2147483647 : Int32)))), .val (.int j32_0), .val (.long j46_0), .second, .val (.ref w_SCATTERED), .val (.ref w_SCATTERED), .val (.ref b6), .val (.ref b8), .val (.int (v0_0 q0 q1 p2 p3 p4 w_LINED w_SCATTERED w_C c_C j32_0 j46_0)), .val (.ref b14), .unset]) rfl k) ?_
                show OGo p e below s _ _ _ (T14.setTop (mkF m 189 #[.val (.long q0), .second, .val (.long q1), .second, .val (.int p2), .val (.int p3), .val (.int p4), .val (.int (f1 (1 : Int32) (p2 &&& (2147483647 : Int32)))), .val (.int j32_0), .val (.long j46_0), .second, .val (.ref w_SCATTERED), .val (.ref w_SCATTERED), .val (.ref b6), .val (.ref b8), .val (.int (v0_0 q0 q1 p2 p3 p4 w_LINED w_SCATTERED w_C c_C j32_0 j46_0)), .val (.ref b14), .unset] []))
                refine OGo.st (fun _ k => XS.iconst X14.here hx rfl (hb hby at_189) k) ?_
                show OGo p e below s _ _ _ (T14.setTop (mkF m 190 #[.val (.long q0), .second, .val (.long q1), .second, .val (.int p2), .val (.int p3), .val (.int p4), .val (.int (f1 (1 : Int32) (p2 &&& (2147483647 : Int32)))), .val (.int j32_0), .val (.long j46_0), .second, .val (.ref w_SCATTERED), .val (.ref w_SCATTERED), .val (.ref b6), .val (.ref b8), .val (.int (v0_0 q0 q1 p2 p3 p4 w_LINED w_SCATTERED w_C c_C j32_0 j46_0)), .val (.ref b14), .unset] [(.int (0 : Int32))]))
                refine OGo.st (fun _ k => XS.istore X14.here hx rfl (hb hby at_190) rfl (l' := #[.val (.long q0), .second, .val (.long q1), .second, .val (.int p2), .val (.int p3), .val (.int p4), .val (.int (f1 (1 : Int32) (p2 &&& (2147483647 : Int32)))), .val (.int j32_0), .val (.long j46_0), .second, .val (.ref w_SCATTERED), .val (.ref w_SCATTERED), .val (.ref b6), .val (.ref b8), .val (.int (v0_0 q0 q1 p2 p3 p4 w_LINED w_SCATTERED w_C c_C j32_0 j46_0)), .val (.ref b14), .val (.int (0 : Int32))]) rfl k) ?_
                show OGo p e below s _ _ _ (T14.setTop (mkF m 192 #[.val (.long q0), .second, .val (.long q1), .second, .val (.int p2), .val (.int p3), .val (.int p4), .val (.int (f1 (1 : Int32) (p2 &&& (2147483647 : Int32)))), .val (.int j32_0), .val (.long j46_0), .second, .val (.ref w_SCATTERED), .val (.ref w_SCATTERED), .val (.ref b6), .val (.ref b8), .val (.int (v0_0 q0 q1 p2 p3 p4 w_LINED w_SCATTERED w_C c_C j32_0 j46_0)), .val (.ref b14), .val (.int (0 : Int32))] []))
                refine OGo.st (fun _ k => XS.goto X14.here hx rfl (pc0 := 192) (pc' := 202) rfl (hb hby at_192) (by decide) (by decide) k) ?_
                show OGo p e below s _ _ _ (T14.setTop (mkF m 202 #[.val (.long q0), .second, .val (.long q1), .second, .val (.int p2), .val (.int p3), .val (.int p4), .val (.int (f1 (1 : Int32) (p2 &&& (2147483647 : Int32)))), .val (.int j32_0), .val (.long j46_0), .second, .val (.ref w_SCATTERED), .val (.ref w_SCATTERED), .val (.ref b6), .val (.ref b8), .val (.int (v0_0 q0 q1 p2 p3 p4 w_LINED w_SCATTERED w_C c_C j32_0 j46_0)), .val (.ref b14), .val (.int (0 : Int32))] []))
                refine OGo.st (fun _ k => XS.aload X14.here hx rfl (hb hby at_202) rfl rfl k) ?_
                show OGo p e below s _ _ _ (T14.setTop (mkF m 204 #[.val (.long q0), .second, .val (.long q1), .second, .val (.int p2), .val (.int p3), .val (.int p4), .val (.int (f1 (1 : Int32) (p2 &&& (2147483647 : Int32)))), .val (.int j32_0), .val (.long j46_0), .second, .val (.ref w_SCATTERED), .val (.ref w_SCATTERED), .val (.ref b6), .val (.ref b8), .val (.int (v0_0 q0 q1 p2 p3 p4 w_LINED w_SCATTERED w_C c_C j32_0 j46_0)), .val (.ref b14), .val (.int (0 : Int32))] [(.ref b6)]))
                refine OGo.st (fun _ k => XS.aload X14.here hx rfl (hb hby at_204) rfl rfl k) ?_
                show OGo p e below s _ _ _ (T14.setTop (mkF m 206 #[.val (.long q0), .second, .val (.long q1), .second, .val (.int p2), .val (.int p3), .val (.int p4), .val (.int (f1 (1 : Int32) (p2 &&& (2147483647 : Int32)))), .val (.int j32_0), .val (.long j46_0), .second, .val (.ref w_SCATTERED), .val (.ref w_SCATTERED), .val (.ref b6), .val (.ref b8), .val (.int (v0_0 q0 q1 p2 p3 p4 w_LINED w_SCATTERED w_C c_C j32_0 j46_0)), .val (.ref b14), .val (.int (0 : Int32))] [(.ref b14), (.ref b6)]))
                obtain ⟨cq15, kq15, q15a, q15b, q15c⟩ := isOf hZ rfl A6_w14
                obtain ⟨_, _, ⟨T15, L15, k15, n15⟩, -, X15, ⟨Lc15, hQ15, l15, y15, z15⟩, st15⟩ := X14.virtualBack hx (y := (⟨"com/example/hazy_set/hazyset/BloomShape", "equals", "(Ljava/lang/Object;)Z"⟩ : MethodName)) (z := (⟨"com/example/hazy_set/hazyset/BloomShape", "equals", "(Ljava/lang/Object;)Z"⟩ : MethodName)) hown (mvT hZ (hw _ (List.mem_of_getElem? (i := 46) rfl))) (mvT hZ (hw _ (List.mem_of_getElem? (i := 47) rfl))) (notFace_of_selects (args := #[]) (mvT hZ (hw _ (List.mem_of_getElem? (i := 49) rfl)))) (mvT hZ (hw _ (List.mem_of_getElem? (i := 49) rfl))) (mvT hZ (hw _ (List.mem_of_getElem? (i := 48) rfl))) (by decide) (backOf (W := 0) (rm6G l Z a0 hw [] b6 b14 T14.heap n0 Z14 A14) hZ (hw _ (List.mem_of_getElem? (i := 50) rfl)) (hw _ (List.mem_of_getElem? (i := 10) rfl)) (by decide) (by decide)) q15a q15c (g := (mkF m 206 #[.val (.long q0), .second, .val (.long q1), .second, .val (.int p2), .val (.int p3), .val (.int p4), .val (.int (f1 (1 : Int32) (p2 &&& (2147483647 : Int32)))), .val (.int j32_0), .val (.long j46_0), .second, .val (.ref w_SCATTERED), .val (.ref w_SCATTERED), .val (.ref b6), .val (.ref b8), .val (.int (v0_0 q0 q1 p2 p3 p4 w_LINED w_SCATTERED w_C c_C j32_0 j46_0)), .val (.ref b14), .val (.int (0 : Int32))] [(.ref b14), (.ref b6)])) rfl (by rw [hml]; rfl) (Steps.refl _) (argsL := [(.ref b14)]) (rest := []) (lenOf pd_0_2 rfl) rfl (by show 2 * 0 + _ ≤ _; exact Nat.le_of_eq rfl) (hb hby at_206) (fun _ _ => ⟨rfl, rfl, (by decide : 3 + 0 ≤ _), (by decide : 15 + 0 ≤ _)⟩)
                dsimp only [Pt.U, Pt.locs, Pt.cells, Pt.slots] at X15 l15 y15 z15 st15 hQ15
                subst l15 y15 z15
                obtain ⟨rfl, N15q, e15⟩ := hQ15
                have hl15 : (f6G) = (0 : Int32) := rfl
                have N15 := Fr.app N14 N15q
                refine OGo.st (fun _ k => st15.trans k) ?_
                show OGo p e below s _ _ _ (T15.setTop (mkF m 209 #[.val (.long q0), .second, .val (.long q1), .second, .val (.int p2), .val (.int p3), .val (.int p4), .val (.int (f1 (1 : Int32) (p2 &&& (2147483647 : Int32)))), .val (.int j32_0), .val (.long j46_0), .second, .val (.ref w_SCATTERED), .val (.ref w_SCATTERED), .val (.ref b6), .val (.ref b8), .val (.int (v0_0 q0 q1 p2 p3 p4 w_LINED w_SCATTERED w_C c_C j32_0 j46_0)), .val (.ref b14), .val (.int (0 : Int32))] [(.int (0 : Int32))]))
                refine OGo.st (fun _ k => XS.iload X15.here hx rfl (hb hby at_209) rfl k) ?_
                show OGo p e below s _ _ _ (T15.setTop (mkF m 211 #[.val (.long q0), .second, .val (.long q1), .second, .val (.int p2), .val (.int p3), .val (.int p4), .val (.int (f1 (1 : Int32) (p2 &&& (2147483647 : Int32)))), .val (.int j32_0), .val (.long j46_0), .second, .val (.ref w_SCATTERED), .val (.ref w_SCATTERED), .val (.ref b6), .val (.ref b8), .val (.int (v0_0 q0 q1 p2 p3 p4 w_LINED w_SCATTERED w_C c_C j32_0 j46_0)), .val (.ref b14), .val (.int (0 : Int32))] [(.int (0 : Int32)), (.int (0 : Int32))]))
                refine OGo.st (fun _ k => XS.icmpNo X15.here hx rfl (hb hby at_211) rfl (teq (by decide : (0 : Int32) = (0 : Int32))).2 k) ?_
                show OGo p e below s _ _ _ (T15.setTop (mkF m 214 #[.val (.long q0), .second, .val (.long q1), .second, .val (.int p2), .val (.int p3), .val (.int p4), .val (.int (f1 (1 : Int32) (p2 &&& (2147483647 : Int32)))), .val (.int j32_0), .val (.long j46_0), .second, .val (.ref w_SCATTERED), .val (.ref w_SCATTERED), .val (.ref b6), .val (.ref b8), .val (.int (v0_0 q0 q1 p2 p3 p4 w_LINED w_SCATTERED w_C c_C j32_0 j46_0)), .val (.ref b14), .val (.int (0 : Int32))] []))
                refine OGo.st (fun _ k => XS.iconst X15.here hx rfl (hb hby at_214) k) ?_
                show OGo p e below s _ _ _ (T15.setTop (mkF m 215 #[.val (.long q0), .second, .val (.long q1), .second, .val (.int p2), .val (.int p3), .val (.int p4), .val (.int (f1 (1 : Int32) (p2 &&& (2147483647 : Int32)))), .val (.int j32_0), .val (.long j46_0), .second, .val (.ref w_SCATTERED), .val (.ref w_SCATTERED), .val (.ref b6), .val (.ref b8), .val (.int (v0_0 q0 q1 p2 p3 p4 w_LINED w_SCATTERED w_C c_C j32_0 j46_0)), .val (.ref b14), .val (.int (0 : Int32))] [(.int (1 : Int32))]))
                refine OGo.st (fun _ k => XS.goto X15.here hx rfl (pc0 := 215) (pc' := 219) rfl (hb hby at_215) (by decide) (by decide) k) ?_
                show OGo p e below s _ _ _ (T15.setTop (mkF m 219 #[.val (.long q0), .second, .val (.long q1), .second, .val (.int p2), .val (.int p3), .val (.int p4), .val (.int (f1 (1 : Int32) (p2 &&& (2147483647 : Int32)))), .val (.int j32_0), .val (.long j46_0), .second, .val (.ref w_SCATTERED), .val (.ref w_SCATTERED), .val (.ref b6), .val (.ref b8), .val (.int (v0_0 q0 q1 p2 p3 p4 w_LINED w_SCATTERED w_C c_C j32_0 j46_0)), .val (.ref b14), .val (.int (0 : Int32))] [(.int (1 : Int32))]))
                exact oretN X15 hx Bd.notSynchronized (t := .boolean) Bd.returns (by simp) (hb hby at_219) (z' := (1 : Int32)) (by decide) e15 ⟨(congrArg (fun z => some (Value.int z)) (show (1 : Int32) = f0 q0 q1 p2 p3 p4 w_LINED w_SCATTERED w_C c_C from Eq.symm (hf46_0.trans (by unfold f0_46; exact (if_pos hc52).trans ((if_pos hc71).trans ((if_neg hc124).trans ((if_neg hc165).trans (if_pos hc180)))))))), N15⟩ (by decide) (by decide)
              · refine OGo.st (fun _ k => XS.icmpYes X9.here hx rfl (pc0 := 180) (pc' := 195) rfl (hb hby at_180) rfl (feq hc180).2 (by decide) (by decide) k) ?_
                show OGo p e below s _ _ _ (T9.setTop (mkF m 195 #[.val (.long q0), .second, .val (.long q1), .second, .val (.int p2), .val (.int p3), .val (.int p4), .val (.int (f1 (1 : Int32) (p2 &&& (2147483647 : Int32)))), .val (.int j32_0), .val (.long j46_0), .second, .val (.ref w_SCATTERED), .val (.ref w_SCATTERED), .val (.ref b6), .val (.ref b8), .val (.int (v0_0 q0 q1 p2 p3 p4 w_LINED w_SCATTERED w_C c_C j32_0 j46_0)), .unset, .unset] []))
                refine OGo.st (fun _ k => XS.aload X9.here hx rfl (hb hby at_195) rfl rfl k) ?_
                show OGo p e below s _ _ _ (T9.setTop (mkF m 197 #[.val (.long q0), .second, .val (.long q1), .second, .val (.int p2), .val (.int p3), .val (.int p4), .val (.int (f1 (1 : Int32) (p2 &&& (2147483647 : Int32)))), .val (.int j32_0), .val (.long j46_0), .second, .val (.ref w_SCATTERED), .val (.ref w_SCATTERED), .val (.ref b6), .val (.ref b8), .val (.int (v0_0 q0 q1 p2 p3 p4 w_LINED w_SCATTERED w_C c_C j32_0 j46_0)), .unset, .unset] [(.ref b6)]))
                refine OGo.st (fun _ k => XS.astore X9.here hx rfl (hb hby at_197) rfl rfl (l' := #[.val (.long q0), .second, .val (.long q1), .second, .val (.int p2), .val (.int p3), .val (.int p4), .val (.int (f1 (1 : Int32) (p2 &&& (2147483647 : Int32)))), .val (.int j32_0), .val (.long j46_0), .second, .val (.ref w_SCATTERED), .val (.ref w_SCATTERED), .val (.ref b6), .val (.ref b8), .val (.int (v0_0 q0 q1 p2 p3 p4 w_LINED w_SCATTERED w_C c_C j32_0 j46_0)), .val (.ref b6), .unset]) rfl k) ?_
                show OGo p e below s _ _ _ (T9.setTop (mkF m 199 #[.val (.long q0), .second, .val (.long q1), .second, .val (.int p2), .val (.int p3), .val (.int p4), .val (.int (f1 (1 : Int32) (p2 &&& (2147483647 : Int32)))), .val (.int j32_0), .val (.long j46_0), .second, .val (.ref w_SCATTERED), .val (.ref w_SCATTERED), .val (.ref b6), .val (.ref b8), .val (.int (v0_0 q0 q1 p2 p3 p4 w_LINED w_SCATTERED w_C c_C j32_0 j46_0)), .val (.ref b6), .unset] []))
                refine OGo.st (fun _ k => XS.iconst X9.here hx rfl (hb hby at_199) k) ?_
                show OGo p e below s _ _ _ (T9.setTop (mkF m 200 #[.val (.long q0), .second, .val (.long q1), .second, .val (.int p2), .val (.int p3), .val (.int p4), .val (.int (f1 (1 : Int32) (p2 &&& (2147483647 : Int32)))), .val (.int j32_0), .val (.long j46_0), .second, .val (.ref w_SCATTERED), .val (.ref w_SCATTERED), .val (.ref b6), .val (.ref b8), .val (.int (v0_0 q0 q1 p2 p3 p4 w_LINED w_SCATTERED w_C c_C j32_0 j46_0)), .val (.ref b6), .unset] [(.int (1 : Int32))]))
                refine OGo.st (fun _ k => XS.istore X9.here hx rfl (hb hby at_200) rfl (l' := #[.val (.long q0), .second, .val (.long q1), .second, .val (.int p2), .val (.int p3), .val (.int p4), .val (.int (f1 (1 : Int32) (p2 &&& (2147483647 : Int32)))), .val (.int j32_0), .val (.long j46_0), .second, .val (.ref w_SCATTERED), .val (.ref w_SCATTERED), .val (.ref b6), .val (.ref b8), .val (.int (v0_0 q0 q1 p2 p3 p4 w_LINED w_SCATTERED w_C c_C j32_0 j46_0)), .val (.ref b6), .val (.int (1 : Int32))]) rfl k) ?_
                show OGo p e below s _ _ _ (T9.setTop (mkF m 202 #[.val (.long q0), .second, .val (.long q1), .second, .val (.int p2), .val (.int p3), .val (.int p4), .val (.int (f1 (1 : Int32) (p2 &&& (2147483647 : Int32)))), .val (.int j32_0), .val (.long j46_0), .second, .val (.ref w_SCATTERED), .val (.ref w_SCATTERED), .val (.ref b6), .val (.ref b8), .val (.int (v0_0 q0 q1 p2 p3 p4 w_LINED w_SCATTERED w_C c_C j32_0 j46_0)), .val (.ref b6), .val (.int (1 : Int32))] []))
                refine OGo.st (fun _ k => XS.aload X9.here hx rfl (hb hby at_202) rfl rfl k) ?_
                show OGo p e below s _ _ _ (T9.setTop (mkF m 204 #[.val (.long q0), .second, .val (.long q1), .second, .val (.int p2), .val (.int p3), .val (.int p4), .val (.int (f1 (1 : Int32) (p2 &&& (2147483647 : Int32)))), .val (.int j32_0), .val (.long j46_0), .second, .val (.ref w_SCATTERED), .val (.ref w_SCATTERED), .val (.ref b6), .val (.ref b8), .val (.int (v0_0 q0 q1 p2 p3 p4 w_LINED w_SCATTERED w_C c_C j32_0 j46_0)), .val (.ref b6), .val (.int (1 : Int32))] [(.ref b6)]))
                refine OGo.st (fun _ k => XS.aload X9.here hx rfl (hb hby at_204) rfl rfl k) ?_
                show OGo p e below s _ _ _ (T9.setTop (mkF m 206 #[.val (.long q0), .second, .val (.long q1), .second, .val (.int p2), .val (.int p3), .val (.int p4), .val (.int (f1 (1 : Int32) (p2 &&& (2147483647 : Int32)))), .val (.int j32_0), .val (.long j46_0), .second, .val (.ref w_SCATTERED), .val (.ref w_SCATTERED), .val (.ref b6), .val (.ref b8), .val (.int (v0_0 q0 q1 p2 p3 p4 w_LINED w_SCATTERED w_C c_C j32_0 j46_0)), .val (.ref b6), .val (.int (1 : Int32))] [(.ref b6), (.ref b6)]))
                obtain ⟨cq16, kq16, q16a, q16b, q16c⟩ := isOf hZ rfl A6_w9
                obtain ⟨_, _, ⟨T16, L16, k16, n16⟩, -, X16, ⟨Lc16, hQ16, l16, y16, z16⟩, st16⟩ := X9.virtualBack hx (y := (⟨"com/example/hazy_set/hazyset/BloomShape", "equals", "(Ljava/lang/Object;)Z"⟩ : MethodName)) (z := (⟨"com/example/hazy_set/hazyset/BloomShape", "equals", "(Ljava/lang/Object;)Z"⟩ : MethodName)) hown (mvT hZ (hw _ (List.mem_of_getElem? (i := 46) rfl))) (mvT hZ (hw _ (List.mem_of_getElem? (i := 47) rfl))) (notFace_of_selects (args := #[]) (mvT hZ (hw _ (List.mem_of_getElem? (i := 49) rfl)))) (mvT hZ (hw _ (List.mem_of_getElem? (i := 49) rfl))) (mvT hZ (hw _ (List.mem_of_getElem? (i := 48) rfl))) (by decide) (backOf (W := 0) (rm6B l Z a0 hw [] b6 b6 q0 (f1 (1 : Int32) (p2 &&& (2147483647 : Int32))) w_SCATTERED q0 (f1 (1 : Int32) (p2 &&& (2147483647 : Int32))) w_SCATTERED T9.heap n0 Z9 A6_w9 G7_0_w9 G7_1_w9 G7_2_w9 A6_w9 G7_0_w9 G7_1_w9 G7_2_w9) hZ (hw _ (List.mem_of_getElem? (i := 50) rfl)) (hw _ (List.mem_of_getElem? (i := 10) rfl)) (by decide) (by decide)) q16a q16c (g := (mkF m 206 #[.val (.long q0), .second, .val (.long q1), .second, .val (.int p2), .val (.int p3), .val (.int p4), .val (.int (f1 (1 : Int32) (p2 &&& (2147483647 : Int32)))), .val (.int j32_0), .val (.long j46_0), .second, .val (.ref w_SCATTERED), .val (.ref w_SCATTERED), .val (.ref b6), .val (.ref b8), .val (.int (v0_0 q0 q1 p2 p3 p4 w_LINED w_SCATTERED w_C c_C j32_0 j46_0)), .val (.ref b6), .val (.int (1 : Int32))] [(.ref b6), (.ref b6)])) rfl (by rw [hml]; rfl) (Steps.refl _) (argsL := [(.ref b6)]) (rest := []) (lenOf pd_0_2 rfl) rfl (by show 2 * 0 + _ ≤ _; exact Nat.le_of_eq rfl) (hb hby at_206) (fun _ _ => ⟨rfl, rfl, (by decide : 2 + 0 ≤ _), (by decide : 14 + 0 ≤ _)⟩)
                dsimp only [Pt.U, Pt.locs, Pt.cells, Pt.slots] at X16 l16 y16 z16 st16 hQ16
                subst l16 y16 z16
                obtain ⟨rfl, N16q, e16⟩ := hQ16
                have N16 := Fr.app N9 N16q
                refine OGo.st (fun _ k => st16.trans k) ?_
                show OGo p e below s _ _ _ (T16.setTop (mkF m 209 #[.val (.long q0), .second, .val (.long q1), .second, .val (.int p2), .val (.int p3), .val (.int p4), .val (.int (f1 (1 : Int32) (p2 &&& (2147483647 : Int32)))), .val (.int j32_0), .val (.long j46_0), .second, .val (.ref w_SCATTERED), .val (.ref w_SCATTERED), .val (.ref b6), .val (.ref b8), .val (.int (v0_0 q0 q1 p2 p3 p4 w_LINED w_SCATTERED w_C c_C j32_0 j46_0)), .val (.ref b6), .val (.int (1 : Int32))] [(.int (f6B q0 (f1 (1 : Int32) (p2 &&& (2147483647 : Int32))) w_SCATTERED q0 (f1 (1 : Int32) (p2 &&& (2147483647 : Int32))) w_SCATTERED))]))
                refine OGo.st (fun _ k => XS.iload X16.here hx rfl (hb hby at_209) rfl k) ?_
                show OGo p e below s _ _ _ (T16.setTop (mkF m 211 #[.val (.long q0), .second, .val (.long q1), .second, .val (.int p2), .val (.int p3), .val (.int p4), .val (.int (f1 (1 : Int32) (p2 &&& (2147483647 : Int32)))), .val (.int j32_0), .val (.long j46_0), .second, .val (.ref w_SCATTERED), .val (.ref w_SCATTERED), .val (.ref b6), .val (.ref b8), .val (.int (v0_0 q0 q1 p2 p3 p4 w_LINED w_SCATTERED w_C c_C j32_0 j46_0)), .val (.ref b6), .val (.int (1 : Int32))] [(.int (1 : Int32)), (.int (f6B q0 (f1 (1 : Int32) (p2 &&& (2147483647 : Int32))) w_SCATTERED q0 (f1 (1 : Int32) (p2 &&& (2147483647 : Int32))) w_SCATTERED))]))
                by_cases hc211 : (f6B q0 (f1 (1 : Int32) (p2 &&& (2147483647 : Int32))) w_SCATTERED q0 (f1 (1 : Int32) (p2 &&& (2147483647 : Int32))) w_SCATTERED) = (1 : Int32)
                · refine OGo.st (fun _ k => XS.icmpNo X16.here hx rfl (hb hby at_211) rfl (teq hc211).2 k) ?_
                  show OGo p e below s _ _ _ (T16.setTop (mkF m 214 #[.val (.long q0), .second, .val (.long q1), .second, .val (.int p2), .val (.int p3), .val (.int p4), .val (.int (f1 (1 : Int32) (p2 &&& (2147483647 : Int32)))), .val (.int j32_0), .val (.long j46_0), .second, .val (.ref w_SCATTERED), .val (.ref w_SCATTERED), .val (.ref b6), .val (.ref b8), .val (.int (v0_0 q0 q1 p2 p3 p4 w_LINED w_SCATTERED w_C c_C j32_0 j46_0)), .val (.ref b6), .val (.int (1 : Int32))] []))
                  refine OGo.st (fun _ k => XS.iconst X16.here hx rfl (hb hby at_214) k) ?_
                  show OGo p e below s _ _ _ (T16.setTop (mkF m 215 #[.val (.long q0), .second, .val (.long q1), .second, .val (.int p2), .val (.int p3), .val (.int p4), .val (.int (f1 (1 : Int32) (p2 &&& (2147483647 : Int32)))), .val (.int j32_0), .val (.long j46_0), .second, .val (.ref w_SCATTERED), .val (.ref w_SCATTERED), .val (.ref b6), .val (.ref b8), .val (.int (v0_0 q0 q1 p2 p3 p4 w_LINED w_SCATTERED w_C c_C j32_0 j46_0)), .val (.ref b6), .val (.int (1 : Int32))] [(.int (1 : Int32))]))
                  refine OGo.st (fun _ k => XS.goto X16.here hx rfl (pc0 := 215) (pc' := 219) rfl (hb hby at_215) (by decide) (by decide) k) ?_
                  show OGo p e below s _ _ _ (T16.setTop (mkF m 219 #[.val (.long q0), .second, .val (.long q1), .second, .val (.int p2), .val (.int p3), .val (.int p4), .val (.int (f1 (1 : Int32) (p2 &&& (2147483647 : Int32)))), .val (.int j32_0), .val (.long j46_0), .second, .val (.ref w_SCATTERED), .val (.ref w_SCATTERED), .val (.ref b6), .val (.ref b8), .val (.int (v0_0 q0 q1 p2 p3 p4 w_LINED w_SCATTERED w_C c_C j32_0 j46_0)), .val (.ref b6), .val (.int (1 : Int32))] [(.int (1 : Int32))]))
                  exact oretN X16 hx Bd.notSynchronized (t := .boolean) Bd.returns (by simp) (hb hby at_219) (z' := (1 : Int32)) (by decide) e16 ⟨(congrArg (fun z => some (Value.int z)) (show (1 : Int32) = f0 q0 q1 p2 p3 p4 w_LINED w_SCATTERED w_C c_C from Eq.symm (hf46_0.trans (by unfold f0_46; exact (if_pos hc52).trans ((if_pos hc71).trans ((if_neg hc124).trans ((if_neg hc165).trans ((if_neg hc180).trans (if_pos hc211))))))))), N16⟩ (by decide) (by decide)
                · refine OGo.st (fun _ k => XS.icmpYes X16.here hx rfl (pc0 := 211) (pc' := 218) rfl (hb hby at_211) rfl (feq hc211).2 (by decide) (by decide) k) ?_
                  show OGo p e below s _ _ _ (T16.setTop (mkF m 218 #[.val (.long q0), .second, .val (.long q1), .second, .val (.int p2), .val (.int p3), .val (.int p4), .val (.int (f1 (1 : Int32) (p2 &&& (2147483647 : Int32)))), .val (.int j32_0), .val (.long j46_0), .second, .val (.ref w_SCATTERED), .val (.ref w_SCATTERED), .val (.ref b6), .val (.ref b8), .val (.int (v0_0 q0 q1 p2 p3 p4 w_LINED w_SCATTERED w_C c_C j32_0 j46_0)), .val (.ref b6), .val (.int (1 : Int32))] []))
                  refine OGo.st (fun _ k => XS.iconst X16.here hx rfl (hb hby at_218) k) ?_
                  show OGo p e below s _ _ _ (T16.setTop (mkF m 219 #[.val (.long q0), .second, .val (.long q1), .second, .val (.int p2), .val (.int p3), .val (.int p4), .val (.int (f1 (1 : Int32) (p2 &&& (2147483647 : Int32)))), .val (.int j32_0), .val (.long j46_0), .second, .val (.ref w_SCATTERED), .val (.ref w_SCATTERED), .val (.ref b6), .val (.ref b8), .val (.int (v0_0 q0 q1 p2 p3 p4 w_LINED w_SCATTERED w_C c_C j32_0 j46_0)), .val (.ref b6), .val (.int (1 : Int32))] [(.int (0 : Int32))]))
                  exact oretN X16 hx Bd.notSynchronized (t := .boolean) Bd.returns (by simp) (hb hby at_219) (z' := (0 : Int32)) (by decide) e16 ⟨(congrArg (fun z => some (Value.int z)) (show (0 : Int32) = f0 q0 q1 p2 p3 p4 w_LINED w_SCATTERED w_C c_C from Eq.symm (hf46_0.trans (by unfold f0_46; exact (if_pos hc52).trans ((if_pos hc71).trans ((if_neg hc124).trans ((if_neg hc165).trans ((if_neg hc180).trans (if_neg hc211))))))))), N16⟩ (by decide) (by decide)
        · refine OGo.st (fun _ k => XS.ifNo X4.here hx rfl (hb hby at_71) rfl ((if0 _ _).trans (feq hc71).1) k) ?_
          show OGo p e below s _ _ _ (T4.setTop (mkF m 74 #[.val (.long q0), .second, .val (.long q1), .second, .val (.int p2), .val (.int p3), .val (.int p4), .val (.int (f1 (1 : Int32) (p2 &&& (2147483647 : Int32)))), .val (.int j32_0), .val (.long j46_0), .second, .val (.ref w_SCATTERED), .unset, .unset, .unset, .unset, .unset, .unset] []))
          obtain ⟨T17, X17, e17, st17⟩ := getS2 X4 hx hZ hown (host := "") (Or.inl (hw _ (List.mem_of_getElem? (i := 53) rfl))) Via.refl e4 S_LINED (g := (mkF m 74 #[.val (.long q0), .second, .val (.long q1), .second, .val (.int p2), .val (.int p3), .val (.int p4), .val (.int (f1 (1 : Int32) (p2 &&& (2147483647 : Int32)))), .val (.int j32_0), .val (.long j46_0), .second, .val (.ref w_SCATTERED), .unset, .unset, .unset, .unset, .unset, .unset] [])) rfl (hb hby at_74)
          refine OGo.st st17 ?_
          show OGo p e below s _ _ _ (T17.setTop (mkF m 77 #[.val (.long q0), .second, .val (.long q1), .second, .val (.int p2), .val (.int p3), .val (.int p4), .val (.int (f1 (1 : Int32) (p2 &&& (2147483647 : Int32)))), .val (.int j32_0), .val (.long j46_0), .second, .val (.ref w_SCATTERED), .unset, .unset, .unset, .unset, .unset, .unset] [(.ref w_LINED)]))
          refine OGo.st (fun _ k => XS.goto X17.here hx rfl (pc0 := 77) (pc' := 83) rfl (hb hby at_77) (by decide) (by decide) k) ?_
          show OGo p e below s _ _ _ (T17.setTop (mkF m 83 #[.val (.long q0), .second, .val (.long q1), .second, .val (.int p2), .val (.int p3), .val (.int p4), .val (.int (f1 (1 : Int32) (p2 &&& (2147483647 : Int32)))), .val (.int j32_0), .val (.long j46_0), .second, .val (.ref w_SCATTERED), .unset, .unset, .unset, .unset, .unset, .unset] [(.ref w_LINED)]))
          refine OGo.st (fun _ k => XS.astore X17.here hx rfl (hb hby at_83) rfl rfl (l' := #[.val (.long q0), .second, .val (.long q1), .second, .val (.int p2), .val (.int p3), .val (.int p4), .val (.int (f1 (1 : Int32) (p2 &&& (2147483647 : Int32)))), .val (.int j32_0), .val (.long j46_0), .second, .val (.ref w_SCATTERED), .val (.ref w_LINED), .unset, .unset, .unset, .unset, .unset]) rfl k) ?_
          show OGo p e below s _ _ _ (T17.setTop (mkF m 85 #[.val (.long q0), .second, .val (.long q1), .second, .val (.int p2), .val (.int p3), .val (.int p4), .val (.int (f1 (1 : Int32) (p2 &&& (2147483647 : Int32)))), .val (.int j32_0), .val (.long j46_0), .second, .val (.ref w_SCATTERED), .val (.ref w_LINED), .unset, .unset, .unset, .unset, .unset] []))
          obtain ⟨T18, h18, X18, e18, E18, A18, D18, U18, st18⟩ := newO X17 hx hZ hown (hw _ (List.mem_of_getElem? (i := 8) rfl)) (hw _ (List.mem_of_getElem? (i := 9) rfl)) (hw _ (List.mem_of_getElem? (i := 10) rfl)) e17 (g := (mkF m 85 #[.val (.long q0), .second, .val (.long q1), .second, .val (.int p2), .val (.int p3), .val (.int p4), .val (.int (f1 (1 : Int32) (p2 &&& (2147483647 : Int32)))), .val (.int j32_0), .val (.long j46_0), .second, .val (.ref w_SCATTERED), .val (.ref w_LINED), .unset, .unset, .unset, .unset, .unset] [])) rfl (hb hby at_85) (by decide) (by decide)
          obtain ⟨b18, g18⟩ : ∃ z, z = h0.size := ⟨_, rfl⟩
          rw [← g18] at A18 D18 U18 st18
          refine OGo.st st18 ?_
          have S_LINED_w18 := S_LINED.ext E18
          have S_SCATTERED_w18 := S_SCATTERED.ext E18
          have E_LINED_w18 := E_LINED.ext E18
          have ne_w_LINED_b18 : w_LINED ≠ b18 := Nat.ne_of_lt (Nat.lt_of_lt_of_le E_LINED.lt (Nat.le_of_eq g18.symm))
          have E_SCATTERED_w18 := E_SCATTERED.ext E18
          have ne_w_SCATTERED_b18 : w_SCATTERED ≠ b18 := Nat.ne_of_lt (Nat.lt_of_lt_of_le E_SCATTERED.lt (Nat.le_of_eq g18.symm))
          have O_LINED_lineShift_w18 := O_LINED_lineShift.ext E18
          have O_LINED_ordinal_w18 := O_LINED_ordinal.ext E18
          have O_SCATTERED_lineShift_w18 := O_SCATTERED_lineShift.ext E18
          have O_SCATTERED_ordinal_w18 := O_SCATTERED_ordinal.ext E18
          have S_C_w18 := S_C.ext E18
          have g_b18 : n0 ≤ b18 := Nat.le_trans Z0 (Nat.le_of_eq g18.symm)
          have sz_b18 : h0.size ≤ b18 := Nat.le_trans (Keep.refl h0 []).1 (Nat.le_of_eq g18.symm)
          have K18 : Keep h0 h18 [] := (Keep.refl h0 _).ext E18
          have Z18 : n0 ≤ h18.size := Nat.le_trans Z0 E18.1
          have F_bitCount_b18 : Fld Z h18 b18 "com/example/hazy_set/hazyset/BloomShape" "bitCount" "J" (.long (0 : Int64)) := D18 (Or.inr (hw _ (List.mem_of_getElem? (i := 18) rfl))) (ty := .long) (by decide)
          have F_hashCount_b18 : Fld Z h18 b18 "com/example/hazy_set/hazyset/BloomShape" "hashCount" "I" (.int (0 : Int32)) := D18 (Or.inr (hw _ (List.mem_of_getElem? (i := 20) rfl))) (ty := .int) (by decide)
          have F_layout_b18 : Fld Z h18 b18 "com/example/hazy_set/hazyset/BloomShape" "layout" "Lcom/example/hazy_set/hazyset/BloomShape$Layout;" .null := D18 (Or.inr (hw _ (List.mem_of_getElem? (i := 22) rfl))) (ty := (.object "com/example/hazy_set/hazyset/BloomShape$Layout")) (by decide)
          have F_lineCount_b18 : Fld Z h18 b18 "com/example/hazy_set/hazyset/BloomShape" "lineCount" "J" (.long (0 : Int64)) := D18 (Or.inr (hw _ (List.mem_of_getElem? (i := 26) rfl))) (ty := .long) (by decide)
          have F_linesPerElement_b18 : Fld Z h18 b18 "com/example/hazy_set/hazyset/BloomShape" "linesPerElement" "I" (.int (0 : Int32)) := D18 (Or.inr (hw _ (List.mem_of_getElem? (i := 41) rfl))) (ty := .int) (by decide)
          have F_bitsPerLine_b18 : Fld Z h18 b18 "com/example/hazy_set/hazyset/BloomShape" "bitsPerLine" "I" (.int (0 : Int32)) := D18 (Or.inr (hw _ (List.mem_of_getElem? (i := 43) rfl))) (ty := .int) (by decide)
          have F_longerLines_b18 : Fld Z h18 b18 "com/example/hazy_set/hazyset/BloomShape" "longerLines" "I" (.int (0 : Int32)) := D18 (Or.inr (hw _ (List.mem_of_getElem? (i := 45) rfl))) (ty := .int) (by decide)
          show OGo p e below s _ _ _ (T18.setTop (mkF m 88 #[.val (.long q0), .second, .val (.long q1), .second, .val (.int p2), .val (.int p3), .val (.int p4), .val (.int (f1 (1 : Int32) (p2 &&& (2147483647 : Int32)))), .val (.int j32_0), .val (.long j46_0), .second, .val (.ref w_SCATTERED), .val (.ref w_LINED), .unset, .unset, .unset, .unset, .unset] [(.ref b18)]))
          refine OGo.st (fun _ k => XS.dup X18.here hx rfl (hb hby at_88) rfl rfl k) ?_
          show OGo p e below s _ _ _ (T18.setTop (mkF m 89 #[.val (.long q0), .second, .val (.long q1), .second, .val (.int p2), .val (.int p3), .val (.int p4), .val (.int (f1 (1 : Int32) (p2 &&& (2147483647 : Int32)))), .val (.int j32_0), .val (.long j46_0), .second, .val (.ref w_SCATTERED), .val (.ref w_LINED), .unset, .unset, .unset, .unset, .unset] [(.ref b18), (.ref b18)]))
          refine OGo.st (fun _ k => XS.lloadN X18.here hx rfl (hb hby at_89) rfl k) ?_
          show OGo p e below s _ _ _ (T18.setTop (mkF m 90 #[.val (.long q0), .second, .val (.long q1), .second, .val (.int p2), .val (.int p3), .val (.int p4), .val (.int (f1 (1 : Int32) (p2 &&& (2147483647 : Int32)))), .val (.int j32_0), .val (.long j46_0), .second, .val (.ref w_SCATTERED), .val (.ref w_LINED), .unset, .unset, .unset, .unset, .unset] [(.long q0), (.ref b18), (.ref b18)]))
          refine OGo.st (fun _ k => XS.iload X18.here hx rfl (hb hby at_90) rfl k) ?_
          show OGo p e below s _ _ _ (T18.setTop (mkF m 92 #[.val (.long q0), .second, .val (.long q1), .second, .val (.int p2), .val (.int p3), .val (.int p4), .val (.int (f1 (1 : Int32) (p2 &&& (2147483647 : Int32)))), .val (.int j32_0), .val (.long j46_0), .second, .val (.ref w_SCATTERED), .val (.ref w_LINED), .unset, .unset, .unset, .unset, .unset] [(.int (f1 (1 : Int32) (p2 &&& (2147483647 : Int32)))), (.long q0), (.ref b18), (.ref b18)]))
          refine OGo.st (fun _ k => XS.aload X18.here hx rfl (hb hby at_92) rfl rfl k) ?_
          show OGo p e below s _ _ _ (T18.setTop (mkF m 94 #[.val (.long q0), .second, .val (.long q1), .second, .val (.int p2), .val (.int p3), .val (.int p4), .val (.int (f1 (1 : Int32) (p2 &&& (2147483647 : Int32)))), .val (.int j32_0), .val (.long j46_0), .second, .val (.ref w_SCATTERED), .val (.ref w_LINED), .unset, .unset, .unset, .unset, .unset] [(.ref w_SCATTERED), (.int (f1 (1 : Int32) (p2 &&& (2147483647 : Int32)))), (.long q0), (.ref b18), (.ref b18)]))
          obtain ⟨_, _, ⟨T19, L19, k19, n19⟩, -, X19, ⟨Lc19, hQ19, l19, y19, z19⟩, st19⟩ := X18.specialBack hx (y := (⟨"com/example/hazy_set/hazyset/BloomShape", "<init>", "(JILcom/example/hazy_set/hazyset/BloomShape$Layout;)V"⟩ : MethodName)) rfl hown (mvT hZ (hw _ (List.mem_of_getElem? (i := 11) rfl))) (mvT hZ (hw _ (List.mem_of_getElem? (i := 12) rfl))) (mvT hZ (hw _ (List.mem_of_getElem? (i := 13) rfl))) (by decide) (backOf (W := 1) (rm2S l Z a0 hw [] b18 q0 (f1 (1 : Int32) (p2 &&& (2147483647 : Int32))) w_SCATTERED h18 n0 Z18 A18 F_bitCount_b18 F_hashCount_b18 F_layout_b18 F_lineCount_b18 F_linesPerElement_b18 F_bitsPerLine_b18 F_longerLines_b18 E_SCATTERED_w18 O_SCATTERED_lineShift_w18 O_SCATTERED_ordinal_w18 g_b18 ne_w_SCATTERED_b18 (own_pos _)) hZ (hw _ (List.mem_of_getElem? (i := 13) rfl)) (hw _ (List.mem_of_getElem? (i := 10) rfl)) (by decide) (by decide)) (g := (mkF m 94 #[.val (.long q0), .second, .val (.long q1), .second, .val (.int p2), .val (.int p3), .val (.int p4), .val (.int (f1 (1 : Int32) (p2 &&& (2147483647 : Int32)))), .val (.int j32_0), .val (.long j46_0), .second, .val (.ref w_SCATTERED), .val (.ref w_LINED), .unset, .unset, .unset, .unset, .unset] [(.ref w_SCATTERED), (.int (f1 (1 : Int32) (p2 &&& (2147483647 : Int32)))), (.long q0), (.ref b18), (.ref b18)])) rfl (by rw [hml]; rfl) (Steps.refl _) (a := b18) (argsL := [(.long q0), (.int (f1 (1 : Int32) (p2 &&& (2147483647 : Int32)))), (.ref w_SCATTERED)]) (rest := [(.ref b18)]) (lenOf pd_0_1 rfl) rfl (by show 2 * 0 + _ ≤ _; exact Nat.le_of_eq rfl) (hb hby at_94) (fun _ _ => ⟨rfl, e18, (by decide : 1 + 0 ≤ _), (by decide : 7 + 0 ≤ _)⟩)
          dsimp only [Pt.U, Pt.locs, Pt.cells, Pt.slots] at X19 l19 y19 z19 st19 hQ19
          subst l19 y19 z19
          obtain ⟨rfl, N19q, Kc19, G19_0, G19_1, G19_2⟩ := hQ19
          have S_LINED_w19 := osta_keep S_LINED_w18 Kc19 (osta_exa A18 (fun _ _ _ _ => nin0))
          have S_SCATTERED_w19 := osta_keep S_SCATTERED_w18 Kc19 (osta_exa A18 (fun _ _ _ _ => nin0))
          have E_LINED_w19 := E_LINED_w18.keep Kc19
          have E_SCATTERED_w19 := E_SCATTERED_w18.keep Kc19
          have O_LINED_lineShift_w19 := O_LINED_lineShift_w18.keep Kc19 (ninS ne_w_LINED_b18 nin0)
          have O_LINED_ordinal_w19 := O_LINED_ordinal_w18.keep Kc19 (ninS ne_w_LINED_b18 nin0)
          have O_SCATTERED_lineShift_w19 := O_SCATTERED_lineShift_w18.keep Kc19 (ninS ne_w_SCATTERED_b18 nin0)
          have O_SCATTERED_ordinal_w19 := O_SCATTERED_ordinal_w18.keep Kc19 (ninS ne_w_SCATTERED_b18 nin0)
          have S_C_w19 := osta_keep S_C_w18 Kc19 (osta_exa A18 (fun _ _ _ _ => nin0))
          have A18_w19 := A18.keep Kc19
          have K19 : Keep h0 T19.heap [] := (K18).trans Kc19 (allS (Or.inr sz_b18) all0)
          have Z19 : n0 ≤ T19.heap.size := Nat.le_trans Z18 Kc19.1
          have N19 := Fr.app N2 N19q
          refine OGo.st (fun _ k => st19.trans k) ?_
          show OGo p e below s _ _ _ (T19.setTop (mkF m 97 #[.val (.long q0), .second, .val (.long q1), .second, .val (.int p2), .val (.int p3), .val (.int p4), .val (.int (f1 (1 : Int32) (p2 &&& (2147483647 : Int32)))), .val (.int j32_0), .val (.long j46_0), .second, .val (.ref w_SCATTERED), .val (.ref w_LINED), .unset, .unset, .unset, .unset, .unset] [(.ref b18)]))
          refine OGo.st (fun _ k => XS.astore X19.here hx rfl (hb hby at_97) rfl rfl (l' := #[.val (.long q0), .second, .val (.long q1), .second, .val (.int p2), .val (.int p3), .val (.int p4), .val (.int (f1 (1 : Int32) (p2 &&& (2147483647 : Int32)))), .val (.int j32_0), .val (.long j46_0), .second, .val (.ref w_SCATTERED), .val (.ref w_LINED), .val (.ref b18), .unset, .unset, .unset, .unset]) rfl k) ?_
          show OGo p e below s _ _ _ (T19.setTop (mkF m 99 #[.val (.long q0), .second, .val (.long q1), .second, .val (.int p2), .val (.int p3), .val (.int p4), .val (.int (f1 (1 : Int32) (p2 &&& (2147483647 : Int32)))), .val (.int j32_0), .val (.long j46_0), .second, .val (.ref w_SCATTERED), .val (.ref w_LINED), .val (.ref b18), .unset, .unset, .unset, .unset] []))
          obtain ⟨T20, h20, X20, e20, E20, A20, D20, U20, st20⟩ := newO X19 hx hZ hown (hw _ (List.mem_of_getElem? (i := 8) rfl)) (hw _ (List.mem_of_getElem? (i := 9) rfl)) (hw _ (List.mem_of_getElem? (i := 10) rfl)) rfl (g := (mkF m 99 #[.val (.long q0), .second, .val (.long q1), .second, .val (.int p2), .val (.int p3), .val (.int p4), .val (.int (f1 (1 : Int32) (p2 &&& (2147483647 : Int32)))), .val (.int j32_0), .val (.long j46_0), .second, .val (.ref w_SCATTERED), .val (.ref w_LINED), .val (.ref b18), .unset, .unset, .unset, .unset] [])) rfl (hb hby at_99) (by decide) (by decide)
          obtain ⟨b20, g20⟩ : ∃ z, z = T19.heap.size := ⟨_, rfl⟩
          rw [← g20] at A20 D20 U20 st20
          refine OGo.st st20 ?_
          have S_LINED_w20 := S_LINED_w19.ext E20
          have S_SCATTERED_w20 := S_SCATTERED_w19.ext E20
          have E_LINED_w20 := E_LINED_w19.ext E20
          have ne_w_LINED_b20 : w_LINED ≠ b20 := Nat.ne_of_lt (Nat.lt_of_lt_of_le E_LINED_w19.lt (Nat.le_of_eq g20.symm))
          have E_SCATTERED_w20 := E_SCATTERED_w19.ext E20
          have ne_w_SCATTERED_b20 : w_SCATTERED ≠ b20 := Nat.ne_of_lt (Nat.lt_of_lt_of_le E_SCATTERED_w19.lt (Nat.le_of_eq g20.symm))
          have O_LINED_lineShift_w20 := O_LINED_lineShift_w19.ext E20
          have O_LINED_ordinal_w20 := O_LINED_ordinal_w19.ext E20
          have O_SCATTERED_lineShift_w20 := O_SCATTERED_lineShift_w19.ext E20
          have O_SCATTERED_ordinal_w20 := O_SCATTERED_ordinal_w19.ext E20
          have S_C_w20 := S_C_w19.ext E20
          have A18_w20 := A18_w19.ext E20
          have ne_b18_b20 : b18 ≠ b20 := Nat.ne_of_lt (Nat.lt_of_lt_of_le A18_w19.lt (Nat.le_of_eq g20.symm))
          have G19_0_w20 := G19_0.ext E20
          have G19_1_w20 := G19_1.ext E20
          have G19_2_w20 := G19_2.ext E20
          have g_b20 : n0 ≤ b20 := Nat.le_trans Z19 (Nat.le_of_eq g20.symm)
          have sz_b20 : h0.size ≤ b20 := Nat.le_trans (K19).1 (Nat.le_of_eq g20.symm)
          have K20 : Keep h0 h20 [] := (K19).ext E20
          have Z20 : n0 ≤ h20.size := Nat.le_trans Z19 E20.1
          have F_bitCount_b20 : Fld Z h20 b20 "com/example/hazy_set/hazyset/BloomShape" "bitCount" "J" (.long (0 : Int64)) := D20 (Or.inr (hw _ (List.mem_of_getElem? (i := 18) rfl))) (ty := .long) (by decide)
          have F_hashCount_b20 : Fld Z h20 b20 "com/example/hazy_set/hazyset/BloomShape" "hashCount" "I" (.int (0 : Int32)) := D20 (Or.inr (hw _ (List.mem_of_getElem? (i := 20) rfl))) (ty := .int) (by decide)
          have F_layout_b20 : Fld Z h20 b20 "com/example/hazy_set/hazyset/BloomShape" "layout" "Lcom/example/hazy_set/hazyset/BloomShape$Layout;" .null := D20 (Or.inr (hw _ (List.mem_of_getElem? (i := 22) rfl))) (ty := (.object "com/example/hazy_set/hazyset/BloomShape$Layout")) (by decide)
          have F_lineCount_b20 : Fld Z h20 b20 "com/example/hazy_set/hazyset/BloomShape" "lineCount" "J" (.long (0 : Int64)) := D20 (Or.inr (hw _ (List.mem_of_getElem? (i := 26) rfl))) (ty := .long) (by decide)
          have F_linesPerElement_b20 : Fld Z h20 b20 "com/example/hazy_set/hazyset/BloomShape" "linesPerElement" "I" (.int (0 : Int32)) := D20 (Or.inr (hw _ (List.mem_of_getElem? (i := 41) rfl))) (ty := .int) (by decide)
          have F_bitsPerLine_b20 : Fld Z h20 b20 "com/example/hazy_set/hazyset/BloomShape" "bitsPerLine" "I" (.int (0 : Int32)) := D20 (Or.inr (hw _ (List.mem_of_getElem? (i := 43) rfl))) (ty := .int) (by decide)
          have F_longerLines_b20 : Fld Z h20 b20 "com/example/hazy_set/hazyset/BloomShape" "longerLines" "I" (.int (0 : Int32)) := D20 (Or.inr (hw _ (List.mem_of_getElem? (i := 45) rfl))) (ty := .int) (by decide)
          show OGo p e below s _ _ _ (T20.setTop (mkF m 102 #[.val (.long q0), .second, .val (.long q1), .second, .val (.int p2), .val (.int p3), .val (.int p4), .val (.int (f1 (1 : Int32) (p2 &&& (2147483647 : Int32)))), .val (.int j32_0), .val (.long j46_0), .second, .val (.ref w_SCATTERED), .val (.ref w_LINED), .val (.ref b18), .unset, .unset, .unset, .unset] [(.ref b20)]))
          refine OGo.st (fun _ k => XS.dup X20.here hx rfl (hb hby at_102) rfl rfl k) ?_
          show OGo p e below s _ _ _ (T20.setTop (mkF m 103 #[.val (.long q0), .second, .val (.long q1), .second, .val (.int p2), .val (.int p3), .val (.int p4), .val (.int (f1 (1 : Int32) (p2 &&& (2147483647 : Int32)))), .val (.int j32_0), .val (.long j46_0), .second, .val (.ref w_SCATTERED), .val (.ref w_LINED), .val (.ref b18), .unset, .unset, .unset, .unset] [(.ref b20), (.ref b20)]))
          refine OGo.st (fun _ k => XS.lload X20.here hx rfl (hb hby at_103) rfl k) ?_
          show OGo p e below s _ _ _ (T20.setTop (mkF m 105 #[.val (.long q0), .second, .val (.long q1), .second, .val (.int p2), .val (.int p3), .val (.int p4), .val (.int (f1 (1 : Int32) (p2 &&& (2147483647 : Int32)))), .val (.int j32_0), .val (.long j46_0), .second, .val (.ref w_SCATTERED), .val (.ref w_LINED), .val (.ref b18), .unset, .unset, .unset, .unset] [(.long j46_0), (.ref b20), (.ref b20)]))
          refine OGo.st (fun _ k => XS.iload X20.here hx rfl (hb hby at_105) rfl k) ?_
          show OGo p e below s _ _ _ (T20.setTop (mkF m 107 #[.val (.long q0), .second, .val (.long q1), .second, .val (.int p2), .val (.int p3), .val (.int p4), .val (.int (f1 (1 : Int32) (p2 &&& (2147483647 : Int32)))), .val (.int j32_0), .val (.long j46_0), .second, .val (.ref w_SCATTERED), .val (.ref w_LINED), .val (.ref b18), .unset, .unset, .unset, .unset] [(.int j32_0), (.long j46_0), (.ref b20), (.ref b20)]))
          refine OGo.st (fun _ k => XS.aload X20.here hx rfl (hb hby at_107) rfl rfl k) ?_
          show OGo p e below s _ _ _ (T20.setTop (mkF m 109 #[.val (.long q0), .second, .val (.long q1), .second, .val (.int p2), .val (.int p3), .val (.int p4), .val (.int (f1 (1 : Int32) (p2 &&& (2147483647 : Int32)))), .val (.int j32_0), .val (.long j46_0), .second, .val (.ref w_SCATTERED), .val (.ref w_LINED), .val (.ref b18), .unset, .unset, .unset, .unset] [(.ref w_LINED), (.int j32_0), (.long j46_0), (.ref b20), (.ref b20)]))
          obtain ⟨_, _, ⟨T21, L21, k21, n21⟩, -, X21, ⟨Lc21, hQ21, l21, y21, z21⟩, st21⟩ := X20.specialBack hx (y := (⟨"com/example/hazy_set/hazyset/BloomShape", "<init>", "(JILcom/example/hazy_set/hazyset/BloomShape$Layout;)V"⟩ : MethodName)) rfl hown (mvT hZ (hw _ (List.mem_of_getElem? (i := 11) rfl))) (mvT hZ (hw _ (List.mem_of_getElem? (i := 12) rfl))) (mvT hZ (hw _ (List.mem_of_getElem? (i := 13) rfl))) (by decide) (backOf (W := 1) (rm2L l Z a0 hw [] b20 j46_0 j32_0 w_LINED h20 n0 Z20 A20 F_bitCount_b20 F_hashCount_b20 F_layout_b20 F_lineCount_b20 F_linesPerElement_b20 F_bitsPerLine_b20 F_longerLines_b20 E_LINED_w20 O_LINED_lineShift_w20 O_LINED_ordinal_w20 g_b20 ne_w_LINED_b20 hk2) hZ (hw _ (List.mem_of_getElem? (i := 13) rfl)) (hw _ (List.mem_of_getElem? (i := 10) rfl)) (by decide) (by decide)) (g := (mkF m 109 #[.val (.long q0), .second, .val (.long q1), .second, .val (.int p2), .val (.int p3), .val (.int p4), .val (.int (f1 (1 : Int32) (p2 &&& (2147483647 : Int32)))), .val (.int j32_0), .val (.long j46_0), .second, .val (.ref w_SCATTERED), .val (.ref w_LINED), .val (.ref b18), .unset, .unset, .unset, .unset] [(.ref w_LINED), (.int j32_0), (.long j46_0), (.ref b20), (.ref b20)])) rfl (by rw [hml]; rfl) (Steps.refl _) (a := b20) (argsL := [(.long j46_0), (.int j32_0), (.ref w_LINED)]) (rest := [(.ref b20)]) (lenOf pd_0_1 rfl) rfl (by show 2 * 0 + _ ≤ _; exact Nat.le_of_eq rfl) (hb hby at_109) (fun _ _ => ⟨rfl, e20, (by decide : 2 + 0 ≤ _), (by decide : 14 + 0 ≤ _)⟩)
          dsimp only [Pt.U, Pt.locs, Pt.cells, Pt.slots] at X21 l21 y21 z21 st21 hQ21
          subst l21 y21 z21
          obtain ⟨rfl, N21q, Kc21, G21_0, G21_1, G21_2⟩ := hQ21
          have S_LINED_w21 := osta_keep S_LINED_w20 Kc21 (osta_exa A20 (fun _ _ _ _ => nin0))
          have S_SCATTERED_w21 := osta_keep S_SCATTERED_w20 Kc21 (osta_exa A20 (fun _ _ _ _ => nin0))
          have E_LINED_w21 := E_LINED_w20.keep Kc21
          have E_SCATTERED_w21 := E_SCATTERED_w20.keep Kc21
          have O_LINED_lineShift_w21 := O_LINED_lineShift_w20.keep Kc21 (ninS ne_w_LINED_b20 nin0)
          have O_LINED_ordinal_w21 := O_LINED_ordinal_w20.keep Kc21 (ninS ne_w_LINED_b20 nin0)
          have O_SCATTERED_lineShift_w21 := O_SCATTERED_lineShift_w20.keep Kc21 (ninS ne_w_SCATTERED_b20 nin0)
          have O_SCATTERED_ordinal_w21 := O_SCATTERED_ordinal_w20.keep Kc21 (ninS ne_w_SCATTERED_b20 nin0)
          have S_C_w21 := osta_keep S_C_w20 Kc21 (osta_exa A20 (fun _ _ _ _ => nin0))
          have A18_w21 := A18_w20.keep Kc21
          have G19_0_w21 := G19_0_w20.keep Kc21 (ninS ne_b18_b20 nin0)
          have G19_1_w21 := G19_1_w20.keep Kc21 (ninS ne_b18_b20 nin0)
          have G19_2_w21 := G19_2_w20.keep Kc21 (ninS ne_b18_b20 nin0)
          have A20_w21 := A20.keep Kc21
          have K21 : Keep h0 T21.heap [] := (K20).trans Kc21 (allS (Or.inr sz_b20) all0)
          have Z21 : n0 ≤ T21.heap.size := Nat.le_trans Z20 Kc21.1
          have N21 := Fr.app N19 N21q
          refine OGo.st (fun _ k => st21.trans k) ?_
          show OGo p e below s _ _ _ (T21.setTop (mkF m 112 #[.val (.long q0), .second, .val (.long q1), .second, .val (.int p2), .val (.int p3), .val (.int p4), .val (.int (f1 (1 : Int32) (p2 &&& (2147483647 : Int32)))), .val (.int j32_0), .val (.long j46_0), .second, .val (.ref w_SCATTERED), .val (.ref w_LINED), .val (.ref b18), .unset, .unset, .unset, .unset] [(.ref b20)]))
          refine OGo.st (fun _ k => XS.astore X21.here hx rfl (hb hby at_112) rfl rfl (l' := #[.val (.long q0), .second, .val (.long q1), .second, .val (.int p2), .val (.int p3), .val (.int p4), .val (.int (f1 (1 : Int32) (p2 &&& (2147483647 : Int32)))), .val (.int j32_0), .val (.long j46_0), .second, .val (.ref w_SCATTERED), .val (.ref w_LINED), .val (.ref b18), .val (.ref b20), .unset, .unset, .unset]) rfl k) ?_
          show OGo p e below s _ _ _ (T21.setTop (mkF m 114 #[.val (.long q0), .second, .val (.long q1), .second, .val (.int p2), .val (.int p3), .val (.int p4), .val (.int (f1 (1 : Int32) (p2 &&& (2147483647 : Int32)))), .val (.int j32_0), .val (.long j46_0), .second, .val (.ref w_SCATTERED), .val (.ref w_LINED), .val (.ref b18), .val (.ref b20), .unset, .unset, .unset] []))
          refine OGo.st (fun _ k => XS.iload X21.here hx rfl (hb hby at_114) rfl k) ?_
          show OGo p e below s _ _ _ (T21.setTop (mkF m 116 #[.val (.long q0), .second, .val (.long q1), .second, .val (.int p2), .val (.int p3), .val (.int p4), .val (.int (f1 (1 : Int32) (p2 &&& (2147483647 : Int32)))), .val (.int j32_0), .val (.long j46_0), .second, .val (.ref w_SCATTERED), .val (.ref w_LINED), .val (.ref b18), .val (.ref b20), .unset, .unset, .unset] [(.int p4)]))
          refine OGo.st (fun _ k => XS.iconst X21.here hx rfl (hb hby at_116) k) ?_
          show OGo p e below s _ _ _ (T21.setTop (mkF m 117 #[.val (.long q0), .second, .val (.long q1), .second, .val (.int p2), .val (.int p3), .val (.int p4), .val (.int (f1 (1 : Int32) (p2 &&& (2147483647 : Int32)))), .val (.int j32_0), .val (.long j46_0), .second, .val (.ref w_SCATTERED), .val (.ref w_LINED), .val (.ref b18), .val (.ref b20), .unset, .unset, .unset] [(.int (4 : Int32)), (.int p4)]))
          refine OGo.st (fun _ k => XS.iushr X21.here hx rfl (hb hby at_117) rfl k) ?_
          show OGo p e below s _ _ _ (T21.setTop (mkF m 118 #[.val (.long q0), .second, .val (.long q1), .second, .val (.int p2), .val (.int p3), .val (.int p4), .val (.int (f1 (1 : Int32) (p2 &&& (2147483647 : Int32)))), .val (.int j32_0), .val (.long j46_0), .second, .val (.ref w_SCATTERED), .val (.ref w_LINED), .val (.ref b18), .val (.ref b20), .unset, .unset, .unset] [(.int ((p4.toUInt32 >>> ((4 : Int32) &&& 31).toUInt32).toInt32))]))
          refine OGo.st (fun _ k => XS.iconst X21.here hx rfl (hb hby at_118) k) ?_
          show OGo p e below s _ _ _ (T21.setTop (mkF m 119 #[.val (.long q0), .second, .val (.long q1), .second, .val (.int p2), .val (.int p3), .val (.int p4), .val (.int (f1 (1 : Int32) (p2 &&& (2147483647 : Int32)))), .val (.int j32_0), .val (.long j46_0), .second, .val (.ref w_SCATTERED), .val (.ref w_LINED), .val (.ref b18), .val (.ref b20), .unset, .unset, .unset] [(.int (3 : Int32)), (.int ((p4.toUInt32 >>> ((4 : Int32) &&& 31).toUInt32).toInt32))]))
          refine OGo.st (fun _ k => XS.iand X21.here hx rfl (hb hby at_119) rfl k) ?_
          show OGo p e below s _ _ _ (T21.setTop (mkF m 120 #[.val (.long q0), .second, .val (.long q1), .second, .val (.int p2), .val (.int p3), .val (.int p4), .val (.int (f1 (1 : Int32) (p2 &&& (2147483647 : Int32)))), .val (.int j32_0), .val (.long j46_0), .second, .val (.ref w_SCATTERED), .val (.ref w_LINED), .val (.ref b18), .val (.ref b20), .unset, .unset, .unset] [(.int (((p4.toUInt32 >>> ((4 : Int32) &&& 31).toUInt32).toInt32) &&& (3 : Int32)))]))
          refine OGo.st (fun _ k => XS.istore X21.here hx rfl (hb hby at_120) rfl (l' := #[.val (.long q0), .second, .val (.long q1), .second, .val (.int p2), .val (.int p3), .val (.int p4), .val (.int (f1 (1 : Int32) (p2 &&& (2147483647 : Int32)))), .val (.int j32_0), .val (.long j46_0), .second, .val (.ref w_SCATTERED), .val (.ref w_LINED), .val (.ref b18), .val (.ref b20), .val (.int (v0_0 q0 q1 p2 p3 p4 w_LINED w_SCATTERED w_C c_C j32_0 j46_0)), .unset, .unset]) rfl k) ?_
          show OGo p e below s _ _ _ (T21.setTop (mkF m 122 #[.val (.long q0), .second, .val (.long q1), .second, .val (.int p2), .val (.int p3), .val (.int p4), .val (.int (f1 (1 : Int32) (p2 &&& (2147483647 : Int32)))), .val (.int j32_0), .val (.long j46_0), .second, .val (.ref w_SCATTERED), .val (.ref w_LINED), .val (.ref b18), .val (.ref b20), .val (.int (v0_0 q0 q1 p2 p3 p4 w_LINED w_SCATTERED w_C c_C j32_0 j46_0)), .unset, .unset] []))
          refine OGo.st (fun _ k => XS.iload X21.here hx rfl (hb hby at_122) rfl k) ?_
          show OGo p e below s _ _ _ (T21.setTop (mkF m 124 #[.val (.long q0), .second, .val (.long q1), .second, .val (.int p2), .val (.int p3), .val (.int p4), .val (.int (f1 (1 : Int32) (p2 &&& (2147483647 : Int32)))), .val (.int j32_0), .val (.long j46_0), .second, .val (.ref w_SCATTERED), .val (.ref w_LINED), .val (.ref b18), .val (.ref b20), .val (.int (v0_0 q0 q1 p2 p3 p4 w_LINED w_SCATTERED w_C c_C j32_0 j46_0)), .unset, .unset] [(.int (v0_0 q0 q1 p2 p3 p4 w_LINED w_SCATTERED w_C c_C j32_0 j46_0))]))
          by_cases hc124 : (v0_0 q0 q1 p2 p3 p4 w_LINED w_SCATTERED w_C c_C j32_0 j46_0) = (0 : Int32)
          · refine OGo.st (fun _ k => XS.ifNo X21.here hx rfl (hb hby at_124) rfl ((if0 _ _).trans (teq hc124).2) k) ?_
            show OGo p e below s _ _ _ (T21.setTop (mkF m 127 #[.val (.long q0), .second, .val (.long q1), .second, .val (.int p2), .val (.int p3), .val (.int p4), .val (.int (f1 (1 : Int32) (p2 &&& (2147483647 : Int32)))), .val (.int j32_0), .val (.long j46_0), .second, .val (.ref w_SCATTERED), .val (.ref w_LINED), .val (.ref b18), .val (.ref b20), .val (.int (v0_0 q0 q1 p2 p3 p4 w_LINED w_SCATTERED w_C c_C j32_0 j46_0)), .unset, .unset] []))
            refine OGo.st (fun _ k => XS.aload X21.here hx rfl (hb hby at_127) rfl rfl k) ?_
            show OGo p e below s _ _ _ (T21.setTop (mkF m 129 #[.val (.long q0), .second, .val (.long q1), .second, .val (.int p2), .val (.int p3), .val (.int p4), .val (.int (f1 (1 : Int32) (p2 &&& (2147483647 : Int32)))), .val (.int j32_0), .val (.long j46_0), .second, .val (.ref w_SCATTERED), .val (.ref w_LINED), .val (.ref b18), .val (.ref b20), .val (.int (v0_0 q0 q1 p2 p3 p4 w_LINED w_SCATTERED w_C c_C j32_0 j46_0)), .unset, .unset] [(.ref b20)]))
            refine OGo.st (fun _ k => XS.astore X21.here hx rfl (hb hby at_129) rfl rfl (l' := #[.val (.long q0), .second, .val (.long q1), .second, .val (.int p2), .val (.int p3), .val (.int p4), .val (.int (f1 (1 : Int32) (p2 &&& (2147483647 : Int32)))), .val (.int j32_0), .val (.long j46_0), .second, .val (.ref w_SCATTERED), .val (.ref w_LINED), .val (.ref b18), .val (.ref b20), .val (.int (v0_0 q0 q1 p2 p3 p4 w_LINED w_SCATTERED w_C c_C j32_0 j46_0)), .val (.ref b20), .unset]) rfl k) ?_
            show OGo p e below s _ _ _ (T21.setTop (mkF m 131 #[.val (.long q0), .second, .val (.long q1), .second, .val (.int p2), .val (.int p3), .val (.int p4), .val (.int (f1 (1 : Int32) (p2 &&& (2147483647 : Int32)))), .val (.int j32_0), .val (.long j46_0), .second, .val (.ref w_SCATTERED), .val (.ref w_LINED), .val (.ref b18), .val (.ref b20), .val (.int (v0_0 q0 q1 p2 p3 p4 w_LINED w_SCATTERED w_C c_C j32_0 j46_0)), .val (.ref b20), .unset] []))
            refine OGo.st (fun _ k => XS.lloadN X21.here hx rfl (hb hby at_131) rfl k) ?_
            show OGo p e below s _ _ _ (T21.setTop (mkF m 132 #[.val (.long q0), .second, .val (.long q1), .second, .val (.int p2), .val (.int p3), .val (.int p4), .val (.int (f1 (1 : Int32) (p2 &&& (2147483647 : Int32)))), .val (.int j32_0), .val (.long j46_0), .second, .val (.ref w_SCATTERED), .val (.ref w_LINED), .val (.ref b18), .val (.ref b20), .val (.int (v0_0 q0 q1 p2 p3 p4 w_LINED w_SCATTERED w_C c_C j32_0 j46_0)), .val (.ref b20), .unset] [(.long q0)]))
            refine OGo.st (fun _ k => XS.lload X21.here hx rfl (hb hby at_132) rfl k) ?_
            show OGo p e below s _ _ _ (T21.setTop (mkF m 134 #[.val (.long q0), .second, .val (.long q1), .second, .val (.int p2), .val (.int p3), .val (.int p4), .val (.int (f1 (1 : Int32) (p2 &&& (2147483647 : Int32)))), .val (.int j32_0), .val (.long j46_0), .second, .val (.ref w_SCATTERED), .val (.ref w_LINED), .val (.ref b18), .val (.ref b20), .val (.int (v0_0 q0 q1 p2 p3 p4 w_LINED w_SCATTERED w_C c_C j32_0 j46_0)), .val (.ref b20), .unset] [(.long j46_0), (.long q0)]))
            refine OGo.st (fun _ k => XS.lcmp X21.here hx rfl (hb hby at_134) rfl k) ?_
            show OGo p e below s _ _ _ (T21.setTop (mkF m 135 #[.val (.long q0), .second, .val (.long q1), .second, .val (.int p2), .val (.int p3), .val (.int p4), .val (.int (f1 (1 : Int32) (p2 &&& (2147483647 : Int32)))), .val (.int j32_0), .val (.long j46_0), .second, .val (.ref w_SCATTERED), .val (.ref w_LINED), .val (.ref b18), .val (.ref b20), .val (.int (v0_0 q0 q1 p2 p3 p4 w_LINED w_SCATTERED w_C c_C j32_0 j46_0)), .val (.ref b20), .unset] [(.int (lcmpW q0 j46_0))]))
            by_cases hc135 : q0 = j46_0
            · refine OGo.st (fun _ k => XS.ifNo X21.here hx rfl (hb hby at_135) rfl ((if0 _ _).trans (teq ((olc_eq _ _).mpr hc135)).2) k) ?_
              show OGo p e below s _ _ _ (T21.setTop (mkF m 138 #[.val (.long q0), .second, .val (.long q1), .second, .val (.int p2), .val (.int p3), .val (.int p4), .val (.int (f1 (1 : Int32) (p2 &&& (2147483647 : Int32)))), .val (.int j32_0), .val (.long j46_0), .second, .val (.ref w_SCATTERED), .val (.ref w_LINED), .val (.ref b18), .val (.ref b20), .val (.int (v0_0 q0 q1 p2 p3 p4 w_LINED w_SCATTERED w_C c_C j32_0 j46_0)), .val (.ref b20), .unset] []))
              refine OGo.st (fun _ k => XS.iload X21.here hx rfl (hb hby at_138) rfl k) ?_
              show OGo p e below s _ _ _ (T21.setTop (mkF m 140 #[.val (.long q0), .second, .val (.long q1), .second, .val (.int p2), .val (.int p3), .val (.int p4), .val (.int (f1 (1 : Int32) (p2 &&& (2147483647 : Int32)))), .val (.int j32_0), .val (.long j46_0), .second, .val (.ref w_SCATTERED), .val (.ref w_LINED), .val (.ref b18), .val (.ref b20), .val (.int (v0_0 q0 q1 p2 p3 p4 w_LINED w_SCATTERED w_C c_C j32_0 j46_0)), .val (.ref b20), .unset] [(.int (f1 (1 : Int32) (p2 &&& (2147483647 : Int32))))]))
              refine OGo.st (fun _ k => XS.iload X21.here hx rfl (hb hby at_140) rfl k) ?_
              show OGo p e below s _ _ _ (T21.setTop (mkF m 142 #[.val (.long q0), .second, .val (.long q1), .second, .val (.int p2), .val (.int p3), .val (.int p4), .val (.int (f1 (1 : Int32) (p2 &&& (2147483647 : Int32)))), .val (.int j32_0), .val (.long j46_0), .second, .val (.ref w_SCATTERED), .val (.ref w_LINED), .val (.ref b18), .val (.ref b20), .val (.int (v0_0 q0 q1 p2 p3 p4 w_LINED w_SCATTERED w_C c_C j32_0 j46_0)), .val (.ref b20), .unset] [(.int j32_0), (.int (f1 (1 : Int32) (p2 &&& (2147483647 : Int32))))]))
              by_cases hc142 : (f1 (1 : Int32) (p2 &&& (2147483647 : Int32))) = j32_0
              · refine OGo.st (fun _ k => XS.icmpNo X21.here hx rfl (hb hby at_142) rfl (teq hc142).2 k) ?_
                show OGo p e below s _ _ _ (T21.setTop (mkF m 145 #[.val (.long q0), .second, .val (.long q1), .second, .val (.int p2), .val (.int p3), .val (.int p4), .val (.int (f1 (1 : Int32) (p2 &&& (2147483647 : Int32)))), .val (.int j32_0), .val (.long j46_0), .second, .val (.ref w_SCATTERED), .val (.ref w_LINED), .val (.ref b18), .val (.ref b20), .val (.int (v0_0 q0 q1 p2 p3 p4 w_LINED w_SCATTERED w_C c_C j32_0 j46_0)), .val (.ref b20), .unset] []))
                refine OGo.st (fun _ k => XS.aload X21.here hx rfl (hb hby at_145) rfl rfl k) ?_
                show OGo p e below s _ _ _ (T21.setTop (mkF m 147 #[.val (.long q0), .second, .val (.long q1), .second, .val (.int p2), .val (.int p3), .val (.int p4), .val (.int (f1 (1 : Int32) (p2 &&& (2147483647 : Int32)))), .val (.int j32_0), .val (.long j46_0), .second, .val (.ref w_SCATTERED), .val (.ref w_LINED), .val (.ref b18), .val (.ref b20), .val (.int (v0_0 q0 q1 p2 p3 p4 w_LINED w_SCATTERED w_C c_C j32_0 j46_0)), .val (.ref b20), .unset] [(.ref w_SCATTERED)]))
                refine OGo.st (fun _ k => XS.aload X21.here hx rfl (hb hby at_147) rfl rfl k) ?_
                show OGo p e below s _ _ _ (T21.setTop (mkF m 149 #[.val (.long q0), .second, .val (.long q1), .second, .val (.int p2), .val (.int p3), .val (.int p4), .val (.int (f1 (1 : Int32) (p2 &&& (2147483647 : Int32)))), .val (.int j32_0), .val (.long j46_0), .second, .val (.ref w_SCATTERED), .val (.ref w_LINED), .val (.ref b18), .val (.ref b20), .val (.int (v0_0 q0 q1 p2 p3 p4 w_LINED w_SCATTERED w_C c_C j32_0 j46_0)), .val (.ref b20), .unset] [(.ref w_LINED), (.ref w_SCATTERED)]))
                refine OGo.st (fun _ k => Jvm.RoadKit.acmp (g := (mkF m 149 #[.val (.long q0), .second, .val (.long q1), .second, .val (.int p2), .val (.int p3), .val (.int p4), .val (.int (f1 (1 : Int32) (p2 &&& (2147483647 : Int32)))), .val (.int j32_0), .val (.long j46_0), .second, .val (.ref w_SCATTERED), .val (.ref w_LINED), .val (.ref b18), .val (.ref b20), .val (.int (v0_0 q0 q1 p2 p3 p4 w_LINED w_SCATTERED w_C c_C j32_0 j46_0)), .val (.ref b20), .unset] [(.ref w_LINED), (.ref w_SCATTERED)])) X21 hx rfl rfl rfl (pc0 := 149) (pc' := 156) (same := false) rfl (hb hby at_149) rfl (decide_eq_false fun q => (Ne.symm ne_LS) (Value.ref.inj q)) (by decide) (by decide) k) ?_
                show OGo p e below s _ _ _ (T21.setTop (mkF m 156 #[.val (.long q0), .second, .val (.long q1), .second, .val (.int p2), .val (.int p3), .val (.int p4), .val (.int (f1 (1 : Int32) (p2 &&& (2147483647 : Int32)))), .val (.int j32_0), .val (.long j46_0), .second, .val (.ref w_SCATTERED), .val (.ref w_LINED), .val (.ref b18), .val (.ref b20), .val (.int (v0_0 q0 q1 p2 p3 p4 w_LINED w_SCATTERED w_C c_C j32_0 j46_0)), .val (.ref b20), .unset] []))
                refine OGo.st (fun _ k => XS.iconst X21.here hx rfl (hb hby at_156) k) ?_
                show OGo p e below s _ _ _ (T21.setTop (mkF m 157 #[.val (.long q0), .second, .val (.long q1), .second, .val (.int p2), .val (.int p3), .val (.int p4), .val (.int (f1 (1 : Int32) (p2 &&& (2147483647 : Int32)))), .val (.int j32_0), .val (.long j46_0), .second, .val (.ref w_SCATTERED), .val (.ref w_LINED), .val (.ref b18), .val (.ref b20), .val (.int (v0_0 q0 q1 p2 p3 p4 w_LINED w_SCATTERED w_C c_C j32_0 j46_0)), .val (.ref b20), .unset] [(.int (0 : Int32))]))
                refine OGo.st (fun _ k => XS.istore X21.here hx rfl (hb hby at_157) rfl (l' := #[.val (.long q0), .second, .val (.long q1), .second, .val (.int p2), .val (.int p3), .val (.int p4), .val (.int (f1 (1 : Int32) (p2 &&& (2147483647 : Int32)))), .val (.int j32_0), .val (.long j46_0), .second, .val (.ref w_SCATTERED), .val (.ref w_LINED), .val (.ref b18), .val (.ref b20), .val (.int (v0_0 q0 q1 p2 p3 p4 w_LINED w_SCATTERED w_C c_C j32_0 j46_0)), .val (.ref b20), .val (.int (0 : Int32))]) rfl k) ?_
                show OGo p e below s _ _ _ (T21.setTop (mkF m 159 #[.val (.long q0), .second, .val (.long q1), .second, .val (.int p2), .val (.int p3), .val (.int p4), .val (.int (f1 (1 : Int32) (p2 &&& (2147483647 : Int32)))), .val (.int j32_0), .val (.long j46_0), .second, .val (.ref w_SCATTERED), .val (.ref w_LINED), .val (.ref b18), .val (.ref b20), .val (.int (v0_0 q0 q1 p2 p3 p4 w_LINED w_SCATTERED w_C c_C j32_0 j46_0)), .val (.ref b20), .val (.int (0 : Int32))] []))
                refine OGo.st (fun _ k => XS.goto X21.here hx rfl (pc0 := 159) (pc' := 202) rfl (hb hby at_159) (by decide) (by decide) k) ?_
                show OGo p e below s _ _ _ (T21.setTop (mkF m 202 #[.val (.long q0), .second, .val (.long q1), .second, .val (.int p2), .val (.int p3), .val (.int p4), .val (.int (f1 (1 : Int32) (p2 &&& (2147483647 : Int32)))), .val (.int j32_0), .val (.long j46_0), .second, .val (.ref w_SCATTERED), .val (.ref w_LINED), .val (.ref b18), .val (.ref b20), .val (.int (v0_0 q0 q1 p2 p3 p4 w_LINED w_SCATTERED w_C c_C j32_0 j46_0)), .val (.ref b20), .val (.int (0 : Int32))] []))
                refine OGo.st (fun _ k => XS.aload X21.here hx rfl (hb hby at_202) rfl rfl k) ?_
                show OGo p e below s _ _ _ (T21.setTop (mkF m 204 #[.val (.long q0), .second, .val (.long q1), .second, .val (.int p2), .val (.int p3), .val (.int p4), .val (.int (f1 (1 : Int32) (p2 &&& (2147483647 : Int32)))), .val (.int j32_0), .val (.long j46_0), .second, .val (.ref w_SCATTERED), .val (.ref w_LINED), .val (.ref b18), .val (.ref b20), .val (.int (v0_0 q0 q1 p2 p3 p4 w_LINED w_SCATTERED w_C c_C j32_0 j46_0)), .val (.ref b20), .val (.int (0 : Int32))] [(.ref b18)]))
                refine OGo.st (fun _ k => XS.aload X21.here hx rfl (hb hby at_204) rfl rfl k) ?_
                show OGo p e below s _ _ _ (T21.setTop (mkF m 206 #[.val (.long q0), .second, .val (.long q1), .second, .val (.int p2), .val (.int p3), .val (.int p4), .val (.int (f1 (1 : Int32) (p2 &&& (2147483647 : Int32)))), .val (.int j32_0), .val (.long j46_0), .second, .val (.ref w_SCATTERED), .val (.ref w_LINED), .val (.ref b18), .val (.ref b20), .val (.int (v0_0 q0 q1 p2 p3 p4 w_LINED w_SCATTERED w_C c_C j32_0 j46_0)), .val (.ref b20), .val (.int (0 : Int32))] [(.ref b20), (.ref b18)]))
                obtain ⟨cq22, kq22, q22a, q22b, q22c⟩ := isOf hZ rfl A18_w21
                obtain ⟨_, _, ⟨T22, L22, k22, n22⟩, -, X22, ⟨Lc22, hQ22, l22, y22, z22⟩, st22⟩ := X21.virtualBack hx (y := (⟨"com/example/hazy_set/hazyset/BloomShape", "equals", "(Ljava/lang/Object;)Z"⟩ : MethodName)) (z := (⟨"com/example/hazy_set/hazyset/BloomShape", "equals", "(Ljava/lang/Object;)Z"⟩ : MethodName)) hown (mvT hZ (hw _ (List.mem_of_getElem? (i := 46) rfl))) (mvT hZ (hw _ (List.mem_of_getElem? (i := 47) rfl))) (notFace_of_selects (args := #[]) (mvT hZ (hw _ (List.mem_of_getElem? (i := 49) rfl)))) (mvT hZ (hw _ (List.mem_of_getElem? (i := 49) rfl))) (mvT hZ (hw _ (List.mem_of_getElem? (i := 48) rfl))) (by decide) (backOf (W := 0) (rm6B l Z a0 hw [] b18 b20 q0 (f1 (1 : Int32) (p2 &&& (2147483647 : Int32))) w_SCATTERED j46_0 j32_0 w_LINED T21.heap n0 Z21 A18_w21 G19_0_w21 G19_1_w21 G19_2_w21 A20_w21 G21_0 G21_1 G21_2) hZ (hw _ (List.mem_of_getElem? (i := 50) rfl)) (hw _ (List.mem_of_getElem? (i := 10) rfl)) (by decide) (by decide)) q22a q22c (g := (mkF m 206 #[.val (.long q0), .second, .val (.long q1), .second, .val (.int p2), .val (.int p3), .val (.int p4), .val (.int (f1 (1 : Int32) (p2 &&& (2147483647 : Int32)))), .val (.int j32_0), .val (.long j46_0), .second, .val (.ref w_SCATTERED), .val (.ref w_LINED), .val (.ref b18), .val (.ref b20), .val (.int (v0_0 q0 q1 p2 p3 p4 w_LINED w_SCATTERED w_C c_C j32_0 j46_0)), .val (.ref b20), .val (.int (0 : Int32))] [(.ref b20), (.ref b18)])) rfl (by rw [hml]; rfl) (Steps.refl _) (argsL := [(.ref b20)]) (rest := []) (lenOf pd_0_2 rfl) rfl (by show 2 * 0 + _ ≤ _; exact Nat.le_of_eq rfl) (hb hby at_206) (fun _ _ => ⟨rfl, rfl, (by decide : 2 + 0 ≤ _), (by decide : 14 + 0 ≤ _)⟩)
                dsimp only [Pt.U, Pt.locs, Pt.cells, Pt.slots] at X22 l22 y22 z22 st22 hQ22
                subst l22 y22 z22
                obtain ⟨rfl, N22q, e22⟩ := hQ22
                have N22 := Fr.app N21 N22q
                refine OGo.st (fun _ k => st22.trans k) ?_
                show OGo p e below s _ _ _ (T22.setTop (mkF m 209 #[.val (.long q0), .second, .val (.long q1), .second, .val (.int p2), .val (.int p3), .val (.int p4), .val (.int (f1 (1 : Int32) (p2 &&& (2147483647 : Int32)))), .val (.int j32_0), .val (.long j46_0), .second, .val (.ref w_SCATTERED), .val (.ref w_LINED), .val (.ref b18), .val (.ref b20), .val (.int (v0_0 q0 q1 p2 p3 p4 w_LINED w_SCATTERED w_C c_C j32_0 j46_0)), .val (.ref b20), .val (.int (0 : Int32))] [(.int (f6B q0 (f1 (1 : Int32) (p2 &&& (2147483647 : Int32))) w_SCATTERED j46_0 j32_0 w_LINED))]))
                refine OGo.st (fun _ k => XS.iload X22.here hx rfl (hb hby at_209) rfl k) ?_
                show OGo p e below s _ _ _ (T22.setTop (mkF m 211 #[.val (.long q0), .second, .val (.long q1), .second, .val (.int p2), .val (.int p3), .val (.int p4), .val (.int (f1 (1 : Int32) (p2 &&& (2147483647 : Int32)))), .val (.int j32_0), .val (.long j46_0), .second, .val (.ref w_SCATTERED), .val (.ref w_LINED), .val (.ref b18), .val (.ref b20), .val (.int (v0_0 q0 q1 p2 p3 p4 w_LINED w_SCATTERED w_C c_C j32_0 j46_0)), .val (.ref b20), .val (.int (0 : Int32))] [(.int (0 : Int32)), (.int (f6B q0 (f1 (1 : Int32) (p2 &&& (2147483647 : Int32))) w_SCATTERED j46_0 j32_0 w_LINED))]))
                by_cases hc211 : (f6B q0 (f1 (1 : Int32) (p2 &&& (2147483647 : Int32))) w_SCATTERED j46_0 j32_0 w_LINED) = (0 : Int32)
                · refine OGo.st (fun _ k => XS.icmpNo X22.here hx rfl (hb hby at_211) rfl (teq hc211).2 k) ?_
                  show OGo p e below s _ _ _ (T22.setTop (mkF m 214 #[.val (.long q0), .second, .val (.long q1), .second, .val (.int p2), .val (.int p3), .val (.int p4), .val (.int (f1 (1 : Int32) (p2 &&& (2147483647 : Int32)))), .val (.int j32_0), .val (.long j46_0), .second, .val (.ref w_SCATTERED), .val (.ref w_LINED), .val (.ref b18), .val (.ref b20), .val (.int (v0_0 q0 q1 p2 p3 p4 w_LINED w_SCATTERED w_C c_C j32_0 j46_0)), .val (.ref b20), .val (.int (0 : Int32))] []))
                  refine OGo.st (fun _ k => XS.iconst X22.here hx rfl (hb hby at_214) k) ?_
                  show OGo p e below s _ _ _ (T22.setTop (mkF m 215 #[.val (.long q0), .second, .val (.long q1), .second, .val (.int p2), .val (.int p3), .val (.int p4), .val (.int (f1 (1 : Int32) (p2 &&& (2147483647 : Int32)))), .val (.int j32_0), .val (.long j46_0), .second, .val (.ref w_SCATTERED), .val (.ref w_LINED), .val (.ref b18), .val (.ref b20), .val (.int (v0_0 q0 q1 p2 p3 p4 w_LINED w_SCATTERED w_C c_C j32_0 j46_0)), .val (.ref b20), .val (.int (0 : Int32))] [(.int (1 : Int32))]))
                  refine OGo.st (fun _ k => XS.goto X22.here hx rfl (pc0 := 215) (pc' := 219) rfl (hb hby at_215) (by decide) (by decide) k) ?_
                  show OGo p e below s _ _ _ (T22.setTop (mkF m 219 #[.val (.long q0), .second, .val (.long q1), .second, .val (.int p2), .val (.int p3), .val (.int p4), .val (.int (f1 (1 : Int32) (p2 &&& (2147483647 : Int32)))), .val (.int j32_0), .val (.long j46_0), .second, .val (.ref w_SCATTERED), .val (.ref w_LINED), .val (.ref b18), .val (.ref b20), .val (.int (v0_0 q0 q1 p2 p3 p4 w_LINED w_SCATTERED w_C c_C j32_0 j46_0)), .val (.ref b20), .val (.int (0 : Int32))] [(.int (1 : Int32))]))
                  exact oretN X22 hx Bd.notSynchronized (t := .boolean) Bd.returns (by simp) (hb hby at_219) (z' := (1 : Int32)) (by decide) e22 ⟨(congrArg (fun z => some (Value.int z)) (show (1 : Int32) = f0 q0 q1 p2 p3 p4 w_LINED w_SCATTERED w_C c_C from Eq.symm (hf46_0.trans (by unfold f0_46; exact (if_pos hc52).trans ((if_neg hc71).trans ((if_pos hc124).trans ((if_pos hc135).trans ((if_pos hc142).trans (if_pos hc211))))))))), N22⟩ (by decide) (by decide)
                · refine OGo.st (fun _ k => XS.icmpYes X22.here hx rfl (pc0 := 211) (pc' := 218) rfl (hb hby at_211) rfl (feq hc211).2 (by decide) (by decide) k) ?_
                  show OGo p e below s _ _ _ (T22.setTop (mkF m 218 #[.val (.long q0), .second, .val (.long q1), .second, .val (.int p2), .val (.int p3), .val (.int p4), .val (.int (f1 (1 : Int32) (p2 &&& (2147483647 : Int32)))), .val (.int j32_0), .val (.long j46_0), .second, .val (.ref w_SCATTERED), .val (.ref w_LINED), .val (.ref b18), .val (.ref b20), .val (.int (v0_0 q0 q1 p2 p3 p4 w_LINED w_SCATTERED w_C c_C j32_0 j46_0)), .val (.ref b20), .val (.int (0 : Int32))] []))
                  refine OGo.st (fun _ k => XS.iconst X22.here hx rfl (hb hby at_218) k) ?_
                  show OGo p e below s _ _ _ (T22.setTop (mkF m 219 #[.val (.long q0), .second, .val (.long q1), .second, .val (.int p2), .val (.int p3), .val (.int p4), .val (.int (f1 (1 : Int32) (p2 &&& (2147483647 : Int32)))), .val (.int j32_0), .val (.long j46_0), .second, .val (.ref w_SCATTERED), .val (.ref w_LINED), .val (.ref b18), .val (.ref b20), .val (.int (v0_0 q0 q1 p2 p3 p4 w_LINED w_SCATTERED w_C c_C j32_0 j46_0)), .val (.ref b20), .val (.int (0 : Int32))] [(.int (0 : Int32))]))
                  exact oretN X22 hx Bd.notSynchronized (t := .boolean) Bd.returns (by simp) (hb hby at_219) (z' := (0 : Int32)) (by decide) e22 ⟨(congrArg (fun z => some (Value.int z)) (show (0 : Int32) = f0 q0 q1 p2 p3 p4 w_LINED w_SCATTERED w_C c_C from Eq.symm (hf46_0.trans (by unfold f0_46; exact (if_pos hc52).trans ((if_neg hc71).trans ((if_pos hc124).trans ((if_pos hc135).trans ((if_pos hc142).trans (if_neg hc211))))))))), N22⟩ (by decide) (by decide)
              · refine OGo.st (fun _ k => XS.icmpYes X21.here hx rfl (pc0 := 142) (pc' := 156) rfl (hb hby at_142) rfl (feq hc142).2 (by decide) (by decide) k) ?_
                show OGo p e below s _ _ _ (T21.setTop (mkF m 156 #[.val (.long q0), .second, .val (.long q1), .second, .val (.int p2), .val (.int p3), .val (.int p4), .val (.int (f1 (1 : Int32) (p2 &&& (2147483647 : Int32)))), .val (.int j32_0), .val (.long j46_0), .second, .val (.ref w_SCATTERED), .val (.ref w_LINED), .val (.ref b18), .val (.ref b20), .val (.int (v0_0 q0 q1 p2 p3 p4 w_LINED w_SCATTERED w_C c_C j32_0 j46_0)), .val (.ref b20), .unset] []))
                refine OGo.st (fun _ k => XS.iconst X21.here hx rfl (hb hby at_156) k) ?_
                show OGo p e below s _ _ _ (T21.setTop (mkF m 157 #[.val (.long q0), .second, .val (.long q1), .second, .val (.int p2), .val (.int p3), .val (.int p4), .val (.int (f1 (1 : Int32) (p2 &&& (2147483647 : Int32)))), .val (.int j32_0), .val (.long j46_0), .second, .val (.ref w_SCATTERED), .val (.ref w_LINED), .val (.ref b18), .val (.ref b20), .val (.int (v0_0 q0 q1 p2 p3 p4 w_LINED w_SCATTERED w_C c_C j32_0 j46_0)), .val (.ref b20), .unset] [(.int (0 : Int32))]))
                refine OGo.st (fun _ k => XS.istore X21.here hx rfl (hb hby at_157) rfl (l' := #[.val (.long q0), .second, .val (.long q1), .second, .val (.int p2), .val (.int p3), .val (.int p4), .val (.int (f1 (1 : Int32) (p2 &&& (2147483647 : Int32)))), .val (.int j32_0), .val (.long j46_0), .second, .val (.ref w_SCATTERED), .val (.ref w_LINED), .val (.ref b18), .val (.ref b20), .val (.int (v0_0 q0 q1 p2 p3 p4 w_LINED w_SCATTERED w_C c_C j32_0 j46_0)), .val (.ref b20), .val (.int (0 : Int32))]) rfl k) ?_
                show OGo p e below s _ _ _ (T21.setTop (mkF m 159 #[.val (.long q0), .second, .val (.long q1), .second, .val (.int p2), .val (.int p3), .val (.int p4), .val (.int (f1 (1 : Int32) (p2 &&& (2147483647 : Int32)))), .val (.int j32_0), .val (.long j46_0), .second, .val (.ref w_SCATTERED), .val (.ref w_LINED), .val (.ref b18), .val (.ref b20), .val (.int (v0_0 q0 q1 p2 p3 p4 w_LINED w_SCATTERED w_C c_C j32_0 j46_0)), .val (.ref b20), .val (.int (0 : Int32))] []))
                refine OGo.st (fun _ k => XS.goto X21.here hx rfl (pc0 := 159) (pc' := 202) rfl (hb hby at_159) (by decide) (by decide) k) ?_
                show OGo p e below s _ _ _ (T21.setTop (mkF m 202 #[.val (.long q0), .second, .val (.long q1), .second, .val (.int p2), .val (.int p3), .val (.int p4), .val (.int (f1 (1 : Int32) (p2 &&& (2147483647 : Int32)))), .val (.int j32_0), .val (.long j46_0), .second, .val (.ref w_SCATTERED), .val (.ref w_LINED), .val (.ref b18), .val (.ref b20), .val (.int (v0_0 q0 q1 p2 p3 p4 w_LINED w_SCATTERED w_C c_C j32_0 j46_0)), .val (.ref b20), .val (.int (0 : Int32))] []))
                refine OGo.st (fun _ k => XS.aload X21.here hx rfl (hb hby at_202) rfl rfl k) ?_
                show OGo p e below s _ _ _ (T21.setTop (mkF m 204 #[.val (.long q0), .second, .val (.long q1), .second, .val (.int p2), .val (.int p3), .val (.int p4), .val (.int (f1 (1 : Int32) (p2 &&& (2147483647 : Int32)))), .val (.int j32_0), .val (.long j46_0), .second, .val (.ref w_SCATTERED), .val (.ref w_LINED), .val (.ref b18), .val (.ref b20), .val (.int (v0_0 q0 q1 p2 p3 p4 w_LINED w_SCATTERED w_C c_C j32_0 j46_0)), .val (.ref b20), .val (.int (0 : Int32))] [(.ref b18)]))
                refine OGo.st (fun _ k => XS.aload X21.here hx rfl (hb hby at_204) rfl rfl k) ?_
                show OGo p e below s _ _ _ (T21.setTop (mkF m 206 #[.val (.long q0), .second, .val (.long q1), .second, .val (.int p2), .val (.int p3), .val (.int p4), .val (.int (f1 (1 : Int32) (p2 &&& (2147483647 : Int32)))), .val (.int j32_0), .val (.long j46_0), .second, .val (.ref w_SCATTERED), .val (.ref w_LINED), .val (.ref b18), .val (.ref b20), .val (.int (v0_0 q0 q1 p2 p3 p4 w_LINED w_SCATTERED w_C c_C j32_0 j46_0)), .val (.ref b20), .val (.int (0 : Int32))] [(.ref b20), (.ref b18)]))
                obtain ⟨cq23, kq23, q23a, q23b, q23c⟩ := isOf hZ rfl A18_w21
                obtain ⟨_, _, ⟨T23, L23, k23, n23⟩, -, X23, ⟨Lc23, hQ23, l23, y23, z23⟩, st23⟩ := X21.virtualBack hx (y := (⟨"com/example/hazy_set/hazyset/BloomShape", "equals", "(Ljava/lang/Object;)Z"⟩ : MethodName)) (z := (⟨"com/example/hazy_set/hazyset/BloomShape", "equals", "(Ljava/lang/Object;)Z"⟩ : MethodName)) hown (mvT hZ (hw _ (List.mem_of_getElem? (i := 46) rfl))) (mvT hZ (hw _ (List.mem_of_getElem? (i := 47) rfl))) (notFace_of_selects (args := #[]) (mvT hZ (hw _ (List.mem_of_getElem? (i := 49) rfl)))) (mvT hZ (hw _ (List.mem_of_getElem? (i := 49) rfl))) (mvT hZ (hw _ (List.mem_of_getElem? (i := 48) rfl))) (by decide) (backOf (W := 0) (rm6B l Z a0 hw [] b18 b20 q0 (f1 (1 : Int32) (p2 &&& (2147483647 : Int32))) w_SCATTERED j46_0 j32_0 w_LINED T21.heap n0 Z21 A18_w21 G19_0_w21 G19_1_w21 G19_2_w21 A20_w21 G21_0 G21_1 G21_2) hZ (hw _ (List.mem_of_getElem? (i := 50) rfl)) (hw _ (List.mem_of_getElem? (i := 10) rfl)) (by decide) (by decide)) q23a q23c (g := (mkF m 206 #[.val (.long q0), .second, .val (.long q1), .second, .val (.int p2), .val (.int p3), .val (.int p4), .val (.int (f1 (1 : Int32) (p2 &&& (2147483647 : Int32)))), .val (.int j32_0), .val (.long j46_0), .second, .val (.ref w_SCATTERED), .val (.ref w_LINED), .val (.ref b18), .val (.ref b20), .val (.int (v0_0 q0 q1 p2 p3 p4 w_LINED w_SCATTERED w_C c_C j32_0 j46_0)), .val (.ref b20), .val (.int (0 : Int32))] [(.ref b20), (.ref b18)])) rfl (by rw [hml]; rfl) (Steps.refl _) (argsL := [(.ref b20)]) (rest := []) (lenOf pd_0_2 rfl) rfl (by show 2 * 0 + _ ≤ _; exact Nat.le_of_eq rfl) (hb hby at_206) (fun _ _ => ⟨rfl, rfl, (by decide : 2 + 0 ≤ _), (by decide : 14 + 0 ≤ _)⟩)
                dsimp only [Pt.U, Pt.locs, Pt.cells, Pt.slots] at X23 l23 y23 z23 st23 hQ23
                subst l23 y23 z23
                obtain ⟨rfl, N23q, e23⟩ := hQ23
                have N23 := Fr.app N21 N23q
                refine OGo.st (fun _ k => st23.trans k) ?_
                show OGo p e below s _ _ _ (T23.setTop (mkF m 209 #[.val (.long q0), .second, .val (.long q1), .second, .val (.int p2), .val (.int p3), .val (.int p4), .val (.int (f1 (1 : Int32) (p2 &&& (2147483647 : Int32)))), .val (.int j32_0), .val (.long j46_0), .second, .val (.ref w_SCATTERED), .val (.ref w_LINED), .val (.ref b18), .val (.ref b20), .val (.int (v0_0 q0 q1 p2 p3 p4 w_LINED w_SCATTERED w_C c_C j32_0 j46_0)), .val (.ref b20), .val (.int (0 : Int32))] [(.int (f6B q0 (f1 (1 : Int32) (p2 &&& (2147483647 : Int32))) w_SCATTERED j46_0 j32_0 w_LINED))]))
                refine OGo.st (fun _ k => XS.iload X23.here hx rfl (hb hby at_209) rfl k) ?_
                show OGo p e below s _ _ _ (T23.setTop (mkF m 211 #[.val (.long q0), .second, .val (.long q1), .second, .val (.int p2), .val (.int p3), .val (.int p4), .val (.int (f1 (1 : Int32) (p2 &&& (2147483647 : Int32)))), .val (.int j32_0), .val (.long j46_0), .second, .val (.ref w_SCATTERED), .val (.ref w_LINED), .val (.ref b18), .val (.ref b20), .val (.int (v0_0 q0 q1 p2 p3 p4 w_LINED w_SCATTERED w_C c_C j32_0 j46_0)), .val (.ref b20), .val (.int (0 : Int32))] [(.int (0 : Int32)), (.int (f6B q0 (f1 (1 : Int32) (p2 &&& (2147483647 : Int32))) w_SCATTERED j46_0 j32_0 w_LINED))]))
                by_cases hc211 : (f6B q0 (f1 (1 : Int32) (p2 &&& (2147483647 : Int32))) w_SCATTERED j46_0 j32_0 w_LINED) = (0 : Int32)
                · refine OGo.st (fun _ k => XS.icmpNo X23.here hx rfl (hb hby at_211) rfl (teq hc211).2 k) ?_
                  show OGo p e below s _ _ _ (T23.setTop (mkF m 214 #[.val (.long q0), .second, .val (.long q1), .second, .val (.int p2), .val (.int p3), .val (.int p4), .val (.int (f1 (1 : Int32) (p2 &&& (2147483647 : Int32)))), .val (.int j32_0), .val (.long j46_0), .second, .val (.ref w_SCATTERED), .val (.ref w_LINED), .val (.ref b18), .val (.ref b20), .val (.int (v0_0 q0 q1 p2 p3 p4 w_LINED w_SCATTERED w_C c_C j32_0 j46_0)), .val (.ref b20), .val (.int (0 : Int32))] []))
                  refine OGo.st (fun _ k => XS.iconst X23.here hx rfl (hb hby at_214) k) ?_
                  show OGo p e below s _ _ _ (T23.setTop (mkF m 215 #[.val (.long q0), .second, .val (.long q1), .second, .val (.int p2), .val (.int p3), .val (.int p4), .val (.int (f1 (1 : Int32) (p2 &&& (2147483647 : Int32)))), .val (.int j32_0), .val (.long j46_0), .second, .val (.ref w_SCATTERED), .val (.ref w_LINED), .val (.ref b18), .val (.ref b20), .val (.int (v0_0 q0 q1 p2 p3 p4 w_LINED w_SCATTERED w_C c_C j32_0 j46_0)), .val (.ref b20), .val (.int (0 : Int32))] [(.int (1 : Int32))]))
                  refine OGo.st (fun _ k => XS.goto X23.here hx rfl (pc0 := 215) (pc' := 219) rfl (hb hby at_215) (by decide) (by decide) k) ?_
                  show OGo p e below s _ _ _ (T23.setTop (mkF m 219 #[.val (.long q0), .second, .val (.long q1), .second, .val (.int p2), .val (.int p3), .val (.int p4), .val (.int (f1 (1 : Int32) (p2 &&& (2147483647 : Int32)))), .val (.int j32_0), .val (.long j46_0), .second, .val (.ref w_SCATTERED), .val (.ref w_LINED), .val (.ref b18), .val (.ref b20), .val (.int (v0_0 q0 q1 p2 p3 p4 w_LINED w_SCATTERED w_C c_C j32_0 j46_0)), .val (.ref b20), .val (.int (0 : Int32))] [(.int (1 : Int32))]))
                  exact oretN X23 hx Bd.notSynchronized (t := .boolean) Bd.returns (by simp) (hb hby at_219) (z' := (1 : Int32)) (by decide) e23 ⟨(congrArg (fun z => some (Value.int z)) (show (1 : Int32) = f0 q0 q1 p2 p3 p4 w_LINED w_SCATTERED w_C c_C from Eq.symm (hf46_0.trans (by unfold f0_46; exact (if_pos hc52).trans ((if_neg hc71).trans ((if_pos hc124).trans ((if_pos hc135).trans ((if_neg hc142).trans (if_pos hc211))))))))), N23⟩ (by decide) (by decide)
                · refine OGo.st (fun _ k => XS.icmpYes X23.here hx rfl (pc0 := 211) (pc' := 218) rfl (hb hby at_211) rfl (feq hc211).2 (by decide) (by decide) k) ?_
                  show OGo p e below s _ _ _ (T23.setTop (mkF m 218 #[.val (.long q0), .second, .val (.long q1), .second, .val (.int p2), .val (.int p3), .val (.int p4), .val (.int (f1 (1 : Int32) (p2 &&& (2147483647 : Int32)))), .val (.int j32_0), .val (.long j46_0), .second, .val (.ref w_SCATTERED), .val (.ref w_LINED), .val (.ref b18), .val (.ref b20), .val (.int (v0_0 q0 q1 p2 p3 p4 w_LINED w_SCATTERED w_C c_C j32_0 j46_0)), .val (.ref b20), .val (.int (0 : Int32))] []))
                  refine OGo.st (fun _ k => XS.iconst X23.here hx rfl (hb hby at_218) k) ?_
                  show OGo p e below s _ _ _ (T23.setTop (mkF m 219 #[.val (.long q0), .second, .val (.long q1), .second, .val (.int p2), .val (.int p3), .val (.int p4), .val (.int (f1 (1 : Int32) (p2 &&& (2147483647 : Int32)))), .val (.int j32_0), .val (.long j46_0), .second, .val (.ref w_SCATTERED), .val (.ref w_LINED), .val (.ref b18), .val (.ref b20), .val (.int (v0_0 q0 q1 p2 p3 p4 w_LINED w_SCATTERED w_C c_C j32_0 j46_0)), .val (.ref b20), .val (.int (0 : Int32))] [(.int (0 : Int32))]))
                  exact oretN X23 hx Bd.notSynchronized (t := .boolean) Bd.returns (by simp) (hb hby at_219) (z' := (0 : Int32)) (by decide) e23 ⟨(congrArg (fun z => some (Value.int z)) (show (0 : Int32) = f0 q0 q1 p2 p3 p4 w_LINED w_SCATTERED w_C c_C from Eq.symm (hf46_0.trans (by unfold f0_46; exact (if_pos hc52).trans ((if_neg hc71).trans ((if_pos hc124).trans ((if_pos hc135).trans ((if_neg hc142).trans (if_neg hc211))))))))), N23⟩ (by decide) (by decide)
            · refine OGo.st (fun _ k => XS.ifYes X21.here hx rfl (pc0 := 135) (pc' := 156) rfl (hb hby at_135) rfl ((if0 _ _).trans (feq (fun z => hc135 ((olc_eq _ _).mp z))).2) (by decide) (by decide) k) ?_
              show OGo p e below s _ _ _ (T21.setTop (mkF m 156 #[.val (.long q0), .second, .val (.long q1), .second, .val (.int p2), .val (.int p3), .val (.int p4), .val (.int (f1 (1 : Int32) (p2 &&& (2147483647 : Int32)))), .val (.int j32_0), .val (.long j46_0), .second, .val (.ref w_SCATTERED), .val (.ref w_LINED), .val (.ref b18), .val (.ref b20), .val (.int (v0_0 q0 q1 p2 p3 p4 w_LINED w_SCATTERED w_C c_C j32_0 j46_0)), .val (.ref b20), .unset] []))
              refine OGo.st (fun _ k => XS.iconst X21.here hx rfl (hb hby at_156) k) ?_
              show OGo p e below s _ _ _ (T21.setTop (mkF m 157 #[.val (.long q0), .second, .val (.long q1), .second, .val (.int p2), .val (.int p3), .val (.int p4), .val (.int (f1 (1 : Int32) (p2 &&& (2147483647 : Int32)))), .val (.int j32_0), .val (.long j46_0), .second, .val (.ref w_SCATTERED), .val (.ref w_LINED), .val (.ref b18), .val (.ref b20), .val (.int (v0_0 q0 q1 p2 p3 p4 w_LINED w_SCATTERED w_C c_C j32_0 j46_0)), .val (.ref b20), .unset] [(.int (0 : Int32))]))
              refine OGo.st (fun _ k => XS.istore X21.here hx rfl (hb hby at_157) rfl (l' := #[.val (.long q0), .second, .val (.long q1), .second, .val (.int p2), .val (.int p3), .val (.int p4), .val (.int (f1 (1 : Int32) (p2 &&& (2147483647 : Int32)))), .val (.int j32_0), .val (.long j46_0), .second, .val (.ref w_SCATTERED), .val (.ref w_LINED), .val (.ref b18), .val (.ref b20), .val (.int (v0_0 q0 q1 p2 p3 p4 w_LINED w_SCATTERED w_C c_C j32_0 j46_0)), .val (.ref b20), .val (.int (0 : Int32))]) rfl k) ?_
              show OGo p e below s _ _ _ (T21.setTop (mkF m 159 #[.val (.long q0), .second, .val (.long q1), .second, .val (.int p2), .val (.int p3), .val (.int p4), .val (.int (f1 (1 : Int32) (p2 &&& (2147483647 : Int32)))), .val (.int j32_0), .val (.long j46_0), .second, .val (.ref w_SCATTERED), .val (.ref w_LINED), .val (.ref b18), .val (.ref b20), .val (.int (v0_0 q0 q1 p2 p3 p4 w_LINED w_SCATTERED w_C c_C j32_0 j46_0)), .val (.ref b20), .val (.int (0 : Int32))] []))
              refine OGo.st (fun _ k => XS.goto X21.here hx rfl (pc0 := 159) (pc' := 202) rfl (hb hby at_159) (by decide) (by decide) k) ?_
              show OGo p e below s _ _ _ (T21.setTop (mkF m 202 #[.val (.long q0), .second, .val (.long q1), .second, .val (.int p2), .val (.int p3), .val (.int p4), .val (.int (f1 (1 : Int32) (p2 &&& (2147483647 : Int32)))), .val (.int j32_0), .val (.long j46_0), .second, .val (.ref w_SCATTERED), .val (.ref w_LINED), .val (.ref b18), .val (.ref b20), .val (.int (v0_0 q0 q1 p2 p3 p4 w_LINED w_SCATTERED w_C c_C j32_0 j46_0)), .val (.ref b20), .val (.int (0 : Int32))] []))
              refine OGo.st (fun _ k => XS.aload X21.here hx rfl (hb hby at_202) rfl rfl k) ?_
              show OGo p e below s _ _ _ (T21.setTop (mkF m 204 #[.val (.long q0), .second, .val (.long q1), .second, .val (.int p2), .val (.int p3), .val (.int p4), .val (.int (f1 (1 : Int32) (p2 &&& (2147483647 : Int32)))), .val (.int j32_0), .val (.long j46_0), .second, .val (.ref w_SCATTERED), .val (.ref w_LINED), .val (.ref b18), .val (.ref b20), .val (.int (v0_0 q0 q1 p2 p3 p4 w_LINED w_SCATTERED w_C c_C j32_0 j46_0)), .val (.ref b20), .val (.int (0 : Int32))] [(.ref b18)]))
              refine OGo.st (fun _ k => XS.aload X21.here hx rfl (hb hby at_204) rfl rfl k) ?_
              show OGo p e below s _ _ _ (T21.setTop (mkF m 206 #[.val (.long q0), .second, .val (.long q1), .second, .val (.int p2), .val (.int p3), .val (.int p4), .val (.int (f1 (1 : Int32) (p2 &&& (2147483647 : Int32)))), .val (.int j32_0), .val (.long j46_0), .second, .val (.ref w_SCATTERED), .val (.ref w_LINED), .val (.ref b18), .val (.ref b20), .val (.int (v0_0 q0 q1 p2 p3 p4 w_LINED w_SCATTERED w_C c_C j32_0 j46_0)), .val (.ref b20), .val (.int (0 : Int32))] [(.ref b20), (.ref b18)]))
              obtain ⟨cq24, kq24, q24a, q24b, q24c⟩ := isOf hZ rfl A18_w21
              obtain ⟨_, _, ⟨T24, L24, k24, n24⟩, -, X24, ⟨Lc24, hQ24, l24, y24, z24⟩, st24⟩ := X21.virtualBack hx (y := (⟨"com/example/hazy_set/hazyset/BloomShape", "equals", "(Ljava/lang/Object;)Z"⟩ : MethodName)) (z := (⟨"com/example/hazy_set/hazyset/BloomShape", "equals", "(Ljava/lang/Object;)Z"⟩ : MethodName)) hown (mvT hZ (hw _ (List.mem_of_getElem? (i := 46) rfl))) (mvT hZ (hw _ (List.mem_of_getElem? (i := 47) rfl))) (notFace_of_selects (args := #[]) (mvT hZ (hw _ (List.mem_of_getElem? (i := 49) rfl)))) (mvT hZ (hw _ (List.mem_of_getElem? (i := 49) rfl))) (mvT hZ (hw _ (List.mem_of_getElem? (i := 48) rfl))) (by decide) (backOf (W := 0) (rm6B l Z a0 hw [] b18 b20 q0 (f1 (1 : Int32) (p2 &&& (2147483647 : Int32))) w_SCATTERED j46_0 j32_0 w_LINED T21.heap n0 Z21 A18_w21 G19_0_w21 G19_1_w21 G19_2_w21 A20_w21 G21_0 G21_1 G21_2) hZ (hw _ (List.mem_of_getElem? (i := 50) rfl)) (hw _ (List.mem_of_getElem? (i := 10) rfl)) (by decide) (by decide)) q24a q24c (g := (mkF m 206 #[.val (.long q0), .second, .val (.long q1), .second, .val (.int p2), .val (.int p3), .val (.int p4), .val (.int (f1 (1 : Int32) (p2 &&& (2147483647 : Int32)))), .val (.int j32_0), .val (.long j46_0), .second, .val (.ref w_SCATTERED), .val (.ref w_LINED), .val (.ref b18), .val (.ref b20), .val (.int (v0_0 q0 q1 p2 p3 p4 w_LINED w_SCATTERED w_C c_C j32_0 j46_0)), .val (.ref b20), .val (.int (0 : Int32))] [(.ref b20), (.ref b18)])) rfl (by rw [hml]; rfl) (Steps.refl _) (argsL := [(.ref b20)]) (rest := []) (lenOf pd_0_2 rfl) rfl (by show 2 * 0 + _ ≤ _; exact Nat.le_of_eq rfl) (hb hby at_206) (fun _ _ => ⟨rfl, rfl, (by decide : 2 + 0 ≤ _), (by decide : 14 + 0 ≤ _)⟩)
              dsimp only [Pt.U, Pt.locs, Pt.cells, Pt.slots] at X24 l24 y24 z24 st24 hQ24
              subst l24 y24 z24
              obtain ⟨rfl, N24q, e24⟩ := hQ24
              have N24 := Fr.app N21 N24q
              refine OGo.st (fun _ k => st24.trans k) ?_
              show OGo p e below s _ _ _ (T24.setTop (mkF m 209 #[.val (.long q0), .second, .val (.long q1), .second, .val (.int p2), .val (.int p3), .val (.int p4), .val (.int (f1 (1 : Int32) (p2 &&& (2147483647 : Int32)))), .val (.int j32_0), .val (.long j46_0), .second, .val (.ref w_SCATTERED), .val (.ref w_LINED), .val (.ref b18), .val (.ref b20), .val (.int (v0_0 q0 q1 p2 p3 p4 w_LINED w_SCATTERED w_C c_C j32_0 j46_0)), .val (.ref b20), .val (.int (0 : Int32))] [(.int (f6B q0 (f1 (1 : Int32) (p2 &&& (2147483647 : Int32))) w_SCATTERED j46_0 j32_0 w_LINED))]))
              refine OGo.st (fun _ k => XS.iload X24.here hx rfl (hb hby at_209) rfl k) ?_
              show OGo p e below s _ _ _ (T24.setTop (mkF m 211 #[.val (.long q0), .second, .val (.long q1), .second, .val (.int p2), .val (.int p3), .val (.int p4), .val (.int (f1 (1 : Int32) (p2 &&& (2147483647 : Int32)))), .val (.int j32_0), .val (.long j46_0), .second, .val (.ref w_SCATTERED), .val (.ref w_LINED), .val (.ref b18), .val (.ref b20), .val (.int (v0_0 q0 q1 p2 p3 p4 w_LINED w_SCATTERED w_C c_C j32_0 j46_0)), .val (.ref b20), .val (.int (0 : Int32))] [(.int (0 : Int32)), (.int (f6B q0 (f1 (1 : Int32) (p2 &&& (2147483647 : Int32))) w_SCATTERED j46_0 j32_0 w_LINED))]))
              by_cases hc211 : (f6B q0 (f1 (1 : Int32) (p2 &&& (2147483647 : Int32))) w_SCATTERED j46_0 j32_0 w_LINED) = (0 : Int32)
              · refine OGo.st (fun _ k => XS.icmpNo X24.here hx rfl (hb hby at_211) rfl (teq hc211).2 k) ?_
                show OGo p e below s _ _ _ (T24.setTop (mkF m 214 #[.val (.long q0), .second, .val (.long q1), .second, .val (.int p2), .val (.int p3), .val (.int p4), .val (.int (f1 (1 : Int32) (p2 &&& (2147483647 : Int32)))), .val (.int j32_0), .val (.long j46_0), .second, .val (.ref w_SCATTERED), .val (.ref w_LINED), .val (.ref b18), .val (.ref b20), .val (.int (v0_0 q0 q1 p2 p3 p4 w_LINED w_SCATTERED w_C c_C j32_0 j46_0)), .val (.ref b20), .val (.int (0 : Int32))] []))
                refine OGo.st (fun _ k => XS.iconst X24.here hx rfl (hb hby at_214) k) ?_
                show OGo p e below s _ _ _ (T24.setTop (mkF m 215 #[.val (.long q0), .second, .val (.long q1), .second, .val (.int p2), .val (.int p3), .val (.int p4), .val (.int (f1 (1 : Int32) (p2 &&& (2147483647 : Int32)))), .val (.int j32_0), .val (.long j46_0), .second, .val (.ref w_SCATTERED), .val (.ref w_LINED), .val (.ref b18), .val (.ref b20), .val (.int (v0_0 q0 q1 p2 p3 p4 w_LINED w_SCATTERED w_C c_C j32_0 j46_0)), .val (.ref b20), .val (.int (0 : Int32))] [(.int (1 : Int32))]))
                refine OGo.st (fun _ k => XS.goto X24.here hx rfl (pc0 := 215) (pc' := 219) rfl (hb hby at_215) (by decide) (by decide) k) ?_
                show OGo p e below s _ _ _ (T24.setTop (mkF m 219 #[.val (.long q0), .second, .val (.long q1), .second, .val (.int p2), .val (.int p3), .val (.int p4), .val (.int (f1 (1 : Int32) (p2 &&& (2147483647 : Int32)))), .val (.int j32_0), .val (.long j46_0), .second, .val (.ref w_SCATTERED), .val (.ref w_LINED), .val (.ref b18), .val (.ref b20), .val (.int (v0_0 q0 q1 p2 p3 p4 w_LINED w_SCATTERED w_C c_C j32_0 j46_0)), .val (.ref b20), .val (.int (0 : Int32))] [(.int (1 : Int32))]))
                exact oretN X24 hx Bd.notSynchronized (t := .boolean) Bd.returns (by simp) (hb hby at_219) (z' := (1 : Int32)) (by decide) e24 ⟨(congrArg (fun z => some (Value.int z)) (show (1 : Int32) = f0 q0 q1 p2 p3 p4 w_LINED w_SCATTERED w_C c_C from Eq.symm (hf46_0.trans (by unfold f0_46; exact (if_pos hc52).trans ((if_neg hc71).trans ((if_pos hc124).trans ((if_neg hc135).trans (if_pos hc211)))))))), N24⟩ (by decide) (by decide)
              · refine OGo.st (fun _ k => XS.icmpYes X24.here hx rfl (pc0 := 211) (pc' := 218) rfl (hb hby at_211) rfl (feq hc211).2 (by decide) (by decide) k) ?_
                show OGo p e below s _ _ _ (T24.setTop (mkF m 218 #[.val (.long q0), .second, .val (.long q1), .second, .val (.int p2), .val (.int p3), .val (.int p4), .val (.int (f1 (1 : Int32) (p2 &&& (2147483647 : Int32)))), .val (.int j32_0), .val (.long j46_0), .second, .val (.ref w_SCATTERED), .val (.ref w_LINED), .val (.ref b18), .val (.ref b20), .val (.int (v0_0 q0 q1 p2 p3 p4 w_LINED w_SCATTERED w_C c_C j32_0 j46_0)), .val (.ref b20), .val (.int (0 : Int32))] []))
                refine OGo.st (fun _ k => XS.iconst X24.here hx rfl (hb hby at_218) k) ?_
                show OGo p e below s _ _ _ (T24.setTop (mkF m 219 #[.val (.long q0), .second, .val (.long q1), .second, .val (.int p2), .val (.int p3), .val (.int p4), .val (.int (f1 (1 : Int32) (p2 &&& (2147483647 : Int32)))), .val (.int j32_0), .val (.long j46_0), .second, .val (.ref w_SCATTERED), .val (.ref w_LINED), .val (.ref b18), .val (.ref b20), .val (.int (v0_0 q0 q1 p2 p3 p4 w_LINED w_SCATTERED w_C c_C j32_0 j46_0)), .val (.ref b20), .val (.int (0 : Int32))] [(.int (0 : Int32))]))
                exact oretN X24 hx Bd.notSynchronized (t := .boolean) Bd.returns (by simp) (hb hby at_219) (z' := (0 : Int32)) (by decide) e24 ⟨(congrArg (fun z => some (Value.int z)) (show (0 : Int32) = f0 q0 q1 p2 p3 p4 w_LINED w_SCATTERED w_C c_C from Eq.symm (hf46_0.trans (by unfold f0_46; exact (if_pos hc52).trans ((if_neg hc71).trans ((if_pos hc124).trans ((if_neg hc135).trans (if_neg hc211)))))))), N24⟩ (by decide) (by decide)
          · refine OGo.st (fun _ k => XS.ifYes X21.here hx rfl (pc0 := 124) (pc' := 162) rfl (hb hby at_124) rfl ((if0 _ _).trans (feq hc124).2) (by decide) (by decide) k) ?_
            show OGo p e below s _ _ _ (T21.setTop (mkF m 162 #[.val (.long q0), .second, .val (.long q1), .second, .val (.int p2), .val (.int p3), .val (.int p4), .val (.int (f1 (1 : Int32) (p2 &&& (2147483647 : Int32)))), .val (.int j32_0), .val (.long j46_0), .second, .val (.ref w_SCATTERED), .val (.ref w_LINED), .val (.ref b18), .val (.ref b20), .val (.int (v0_0 q0 q1 p2 p3 p4 w_LINED w_SCATTERED w_C c_C j32_0 j46_0)), .unset, .unset] []))
            refine OGo.st (fun _ k => XS.iload X21.here hx rfl (hb hby at_162) rfl k) ?_
            show OGo p e below s _ _ _ (T21.setTop (mkF m 164 #[.val (.long q0), .second, .val (.long q1), .second, .val (.int p2), .val (.int p3), .val (.int p4), .val (.int (f1 (1 : Int32) (p2 &&& (2147483647 : Int32)))), .val (.int j32_0), .val (.long j46_0), .second, .val (.ref w_SCATTERED), .val (.ref w_LINED), .val (.ref b18), .val (.ref b20), .val (.int (v0_0 q0 q1 p2 p3 p4 w_LINED w_SCATTERED w_C c_C j32_0 j46_0)), .unset, .unset] [(.int (v0_0 q0 q1 p2 p3 p4 w_LINED w_SCATTERED w_C c_C j32_0 j46_0))]))
            refine OGo.st (fun _ k => XS.iconst X21.here hx rfl (hb hby at_164) k) ?_
            show OGo p e below s _ _ _ (T21.setTop (mkF m 165 #[.val (.long q0), .second, .val (.long q1), .second, .val (.int p2), .val (.int p3), .val (.int p4), .val (.int (f1 (1 : Int32) (p2 &&& (2147483647 : Int32)))), .val (.int j32_0), .val (.long j46_0), .second, .val (.ref w_SCATTERED), .val (.ref w_LINED), .val (.ref b18), .val (.ref b20), .val (.int (v0_0 q0 q1 p2 p3 p4 w_LINED w_SCATTERED w_C c_C j32_0 j46_0)), .unset, .unset] [(.int (1 : Int32)), (.int (v0_0 q0 q1 p2 p3 p4 w_LINED w_SCATTERED w_C c_C j32_0 j46_0))]))
            by_cases hc165 : (v0_0 q0 q1 p2 p3 p4 w_LINED w_SCATTERED w_C c_C j32_0 j46_0) = (1 : Int32)
            · refine OGo.st (fun _ k => XS.icmpNo X21.here hx rfl (hb hby at_165) rfl (teq hc165).2 k) ?_
              show OGo p e below s _ _ _ (T21.setTop (mkF m 168 #[.val (.long q0), .second, .val (.long q1), .second, .val (.int p2), .val (.int p3), .val (.int p4), .val (.int (f1 (1 : Int32) (p2 &&& (2147483647 : Int32)))), .val (.int j32_0), .val (.long j46_0), .second, .val (.ref w_SCATTERED), .val (.ref w_LINED), .val (.ref b18), .val (.ref b20), .val (.int (v0_0 q0 q1 p2 p3 p4 w_LINED w_SCATTERED w_C c_C j32_0 j46_0)), .unset, .unset] []))
              refine OGo.st (fun _ k => XS.aconstNull X21.here hx rfl (hb hby at_168) k) ?_
              show OGo p e below s _ _ _ (T21.setTop (mkF m 169 #[.val (.long q0), .second, .val (.long q1), .second, .val (.int p2), .val (.int p3), .val (.int p4), .val (.int (f1 (1 : Int32) (p2 &&& (2147483647 : Int32)))), .val (.int j32_0), .val (.long j46_0), .second, .val (.ref w_SCATTERED), .val (.ref w_LINED), .val (.ref b18), .val (.ref b20), .val (.int (v0_0 q0 q1 p2 p3 p4 w_LINED w_SCATTERED w_C c_C j32_0 j46_0)), .unset, .unset] [.null]))
              refine OGo.st (fun _ k => XS.astore X21.here hx rfl (hb hby at_169) rfl rfl (l' := #[.val (.long q0), .second, .val (.long q1), .second, .val (.int p2), .val (.int p3), .val (.int p4), .val (.int (f1 (1 : Int32) (p2 &&& (2147483647 : Int32)))), .val (.int j32_0), .val (.long j46_0), .second, .val (.ref w_SCATTERED), .val (.ref w_LINED), .val (.ref b18), .val (.ref b20), .val (.int (v0_0 q0 q1 p2 p3 p4 w_LINED w_SCATTERED w_C c_C j32_0 j46_0)), .val .null, .unset]) rfl k) ?_
              show OGo p e below s _ _ _ (T21.setTop (mkF m 171 #[.val (.long q0), .second, .val (.long q1), .second, .val (.int p2), .val (.int p3), .val (.int p4), .val (.int (f1 (1 : Int32) (p2 &&& (2147483647 : Int32)))), .val (.int j32_0), .val (.long j46_0), .second, .val (.ref w_SCATTERED), .val (.ref w_LINED), .val (.ref b18), .val (.ref b20), .val (.int (v0_0 q0 q1 p2 p3 p4 w_LINED w_SCATTERED w_C c_C j32_0 j46_0)), .val .null, .unset] []))
              refine OGo.st (fun _ k => XS.iconst X21.here hx rfl (hb hby at_171) k) ?_
              show OGo p e below s _ _ _ (T21.setTop (mkF m 172 #[.val (.long q0), .second, .val (.long q1), .second, .val (.int p2), .val (.int p3), .val (.int p4), .val (.int (f1 (1 : Int32) (p2 &&& (2147483647 : Int32)))), .val (.int j32_0), .val (.long j46_0), .second, .val (.ref w_SCATTERED), .val (.ref w_LINED), .val (.ref b18), .val (.ref b20), .val (.int (v0_0 q0 q1 p2 p3 p4 w_LINED w_SCATTERED w_C c_C j32_0 j46_0)), .val .null, .unset] [(.int (0 : Int32))]))
              refine OGo.st (fun _ k => XS.istore X21.here hx rfl (hb hby at_172) rfl (l' := #[.val (.long q0), .second, .val (.long q1), .second, .val (.int p2), .val (.int p3), .val (.int p4), .val (.int (f1 (1 : Int32) (p2 &&& (2147483647 : Int32)))), .val (.int j32_0), .val (.long j46_0), .second, .val (.ref w_SCATTERED), .val (.ref w_LINED), .val (.ref b18), .val (.ref b20), .val (.int (v0_0 q0 q1 p2 p3 p4 w_LINED w_SCATTERED w_C c_C j32_0 j46_0)), .val .null, .val (.int (0 : Int32))]) rfl k) ?_
              show OGo p e below s _ _ _ (T21.setTop (mkF m 174 #[.val (.long q0), .second, .val (.long q1), .second, .val (.int p2), .val (.int p3), .val (.int p4), .val (.int (f1 (1 : Int32) (p2 &&& (2147483647 : Int32)))), .val (.int j32_0), .val (.long j46_0), .second, .val (.ref w_SCATTERED), .val (.ref w_LINED), .val (.ref b18), .val (.ref b20), .val (.int (v0_0 q0 q1 p2 p3 p4 w_LINED w_SCATTERED w_C c_C j32_0 j46_0)), .val .null, .val (.int (0 : Int32))] []))
              refine OGo.st (fun _ k => XS.goto X21.here hx rfl (pc0 := 174) (pc' := 202) rfl (hb hby at_174) (by decide) (by decide) k) ?_
              show OGo p e below s _ _ _ (T21.setTop (mkF m 202 #[.val (.long q0), .second, .val (.long q1), .second, .val (.int p2), .val (.int p3), .val (.int p4), .val (.int (f1 (1 : Int32) (p2 &&& (2147483647 : Int32)))), .val (.int j32_0), .val (.long j46_0), .second, .val (.ref w_SCATTERED), .val (.ref w_LINED), .val (.ref b18), .val (.ref b20), .val (.int (v0_0 q0 q1 p2 p3 p4 w_LINED w_SCATTERED w_C c_C j32_0 j46_0)), .val .null, .val (.int (0 : Int32))] []))
              refine OGo.st (fun _ k => XS.aload X21.here hx rfl (hb hby at_202) rfl rfl k) ?_
              show OGo p e below s _ _ _ (T21.setTop (mkF m 204 #[.val (.long q0), .second, .val (.long q1), .second, .val (.int p2), .val (.int p3), .val (.int p4), .val (.int (f1 (1 : Int32) (p2 &&& (2147483647 : Int32)))), .val (.int j32_0), .val (.long j46_0), .second, .val (.ref w_SCATTERED), .val (.ref w_LINED), .val (.ref b18), .val (.ref b20), .val (.int (v0_0 q0 q1 p2 p3 p4 w_LINED w_SCATTERED w_C c_C j32_0 j46_0)), .val .null, .val (.int (0 : Int32))] [(.ref b18)]))
              refine OGo.st (fun _ k => XS.aload X21.here hx rfl (hb hby at_204) rfl rfl k) ?_
              show OGo p e below s _ _ _ (T21.setTop (mkF m 206 #[.val (.long q0), .second, .val (.long q1), .second, .val (.int p2), .val (.int p3), .val (.int p4), .val (.int (f1 (1 : Int32) (p2 &&& (2147483647 : Int32)))), .val (.int j32_0), .val (.long j46_0), .second, .val (.ref w_SCATTERED), .val (.ref w_LINED), .val (.ref b18), .val (.ref b20), .val (.int (v0_0 q0 q1 p2 p3 p4 w_LINED w_SCATTERED w_C c_C j32_0 j46_0)), .val .null, .val (.int (0 : Int32))] [.null, (.ref b18)]))
              obtain ⟨cq25, kq25, q25a, q25b, q25c⟩ := isOf hZ rfl A18_w21
              obtain ⟨_, _, ⟨T25, L25, k25, n25⟩, -, X25, ⟨Lc25, hQ25, l25, y25, z25⟩, st25⟩ := X21.virtualBack hx (y := (⟨"com/example/hazy_set/hazyset/BloomShape", "equals", "(Ljava/lang/Object;)Z"⟩ : MethodName)) (z := (⟨"com/example/hazy_set/hazyset/BloomShape", "equals", "(Ljava/lang/Object;)Z"⟩ : MethodName)) hown (mvT hZ (hw _ (List.mem_of_getElem? (i := 46) rfl))) (mvT hZ (hw _ (List.mem_of_getElem? (i := 47) rfl))) (notFace_of_selects (args := #[]) (mvT hZ (hw _ (List.mem_of_getElem? (i := 49) rfl)))) (mvT hZ (hw _ (List.mem_of_getElem? (i := 49) rfl))) (mvT hZ (hw _ (List.mem_of_getElem? (i := 48) rfl))) (by decide) (backOf (W := 0) (rm6N l Z a0 hw [] b18 T21.heap n0 Z21) hZ (hw _ (List.mem_of_getElem? (i := 50) rfl)) (hw _ (List.mem_of_getElem? (i := 10) rfl)) (by decide) (by decide)) q25a q25c (g := (mkF m 206 #[.val (.long q0), .second, .val (.long q1), .second, .val (.int p2), .val (.int p3), .val (.int p4), .val (.int (f1 (1 : Int32) (p2 &&& (2147483647 : Int32)))), .val (.int j32_0), .val (.long j46_0), .second, .val (.ref w_SCATTERED), .val (.ref w_LINED), .val (.ref b18), .val (.ref b20), .val (.int (v0_0 q0 q1 p2 p3 p4 w_LINED w_SCATTERED w_C c_C j32_0 j46_0)), .val .null, .val (.int (0 : Int32))] [.null, (.ref b18)])) rfl (by rw [hml]; rfl) (Steps.refl _) (argsL := [.null]) (rest := []) (lenOf pd_0_2 rfl) rfl (by show 2 * 0 + _ ≤ _; exact Nat.le_of_eq rfl) (hb hby at_206) (fun _ _ => ⟨rfl, rfl, (by decide : 2 + 0 ≤ _), (by decide : 14 + 0 ≤ _)⟩)
              dsimp only [Pt.U, Pt.locs, Pt.cells, Pt.slots] at X25 l25 y25 z25 st25 hQ25
              subst l25 y25 z25
              obtain ⟨rfl, N25q, e25⟩ := hQ25
              have hl25 : (f6N) = (0 : Int32) := rfl
              have N25 := Fr.app N21 N25q
              refine OGo.st (fun _ k => st25.trans k) ?_
              show OGo p e below s _ _ _ (T25.setTop (mkF m 209 #[.val (.long q0), .second, .val (.long q1), .second, .val (.int p2), .val (.int p3), .val (.int p4), .val (.int (f1 (1 : Int32) (p2 &&& (2147483647 : Int32)))), .val (.int j32_0), .val (.long j46_0), .second, .val (.ref w_SCATTERED), .val (.ref w_LINED), .val (.ref b18), .val (.ref b20), .val (.int (v0_0 q0 q1 p2 p3 p4 w_LINED w_SCATTERED w_C c_C j32_0 j46_0)), .val .null, .val (.int (0 : Int32))] [(.int (0 : Int32))]))
              refine OGo.st (fun _ k => XS.iload X25.here hx rfl (hb hby at_209) rfl k) ?_
              show OGo p e below s _ _ _ (T25.setTop (mkF m 211 #[.val (.long q0), .second, .val (.long q1), .second, .val (.int p2), .val (.int p3), .val (.int p4), .val (.int (f1 (1 : Int32) (p2 &&& (2147483647 : Int32)))), .val (.int j32_0), .val (.long j46_0), .second, .val (.ref w_SCATTERED), .val (.ref w_LINED), .val (.ref b18), .val (.ref b20), .val (.int (v0_0 q0 q1 p2 p3 p4 w_LINED w_SCATTERED w_C c_C j32_0 j46_0)), .val .null, .val (.int (0 : Int32))] [(.int (0 : Int32)), (.int (0 : Int32))]))
              refine OGo.st (fun _ k => XS.icmpNo X25.here hx rfl (hb hby at_211) rfl (teq (by decide : (0 : Int32) = (0 : Int32))).2 k) ?_
              show OGo p e below s _ _ _ (T25.setTop (mkF m 214 #[.val (.long q0), .second, .val (.long q1), .second, .val (.int p2), .val (.int p3), .val (.int p4), .val (.int (f1 (1 : Int32) (p2 &&& (2147483647 : Int32)))), .val (.int j32_0), .val (.long j46_0), .second, .val (.ref w_SCATTERED), .val (.ref w_LINED), .val (.ref b18), .val (.ref b20), .val (.int (v0_0 q0 q1 p2 p3 p4 w_LINED w_SCATTERED w_C c_C j32_0 j46_0)), .val .null, .val (.int (0 : Int32))] []))
              refine OGo.st (fun _ k => XS.iconst X25.here hx rfl (hb hby at_214) k) ?_
              show OGo p e below s _ _ _ (T25.setTop (mkF m 215 #[.val (.long q0), .second, .val (.long q1), .second, .val (.int p2), .val (.int p3), .val (.int p4), .val (.int (f1 (1 : Int32) (p2 &&& (2147483647 : Int32)))), .val (.int j32_0), .val (.long j46_0), .second, .val (.ref w_SCATTERED), .val (.ref w_LINED), .val (.ref b18), .val (.ref b20), .val (.int (v0_0 q0 q1 p2 p3 p4 w_LINED w_SCATTERED w_C c_C j32_0 j46_0)), .val .null, .val (.int (0 : Int32))] [(.int (1 : Int32))]))
              refine OGo.st (fun _ k => XS.goto X25.here hx rfl (pc0 := 215) (pc' := 219) rfl (hb hby at_215) (by decide) (by decide) k) ?_
              show OGo p e below s _ _ _ (T25.setTop (mkF m 219 #[.val (.long q0), .second, .val (.long q1), .second, .val (.int p2), .val (.int p3), .val (.int p4), .val (.int (f1 (1 : Int32) (p2 &&& (2147483647 : Int32)))), .val (.int j32_0), .val (.long j46_0), .second, .val (.ref w_SCATTERED), .val (.ref w_LINED), .val (.ref b18), .val (.ref b20), .val (.int (v0_0 q0 q1 p2 p3 p4 w_LINED w_SCATTERED w_C c_C j32_0 j46_0)), .val .null, .val (.int (0 : Int32))] [(.int (1 : Int32))]))
              exact oretN X25 hx Bd.notSynchronized (t := .boolean) Bd.returns (by simp) (hb hby at_219) (z' := (1 : Int32)) (by decide) e25 ⟨(congrArg (fun z => some (Value.int z)) (show (1 : Int32) = f0 q0 q1 p2 p3 p4 w_LINED w_SCATTERED w_C c_C from Eq.symm (hf46_0.trans (by unfold f0_46; exact (if_pos hc52).trans ((if_neg hc71).trans ((if_neg hc124).trans (if_pos hc165))))))), N25⟩ (by decide) (by decide)
            · refine OGo.st (fun _ k => XS.icmpYes X21.here hx rfl (pc0 := 165) (pc' := 177) rfl (hb hby at_165) rfl (feq hc165).2 (by decide) (by decide) k) ?_
              show OGo p e below s _ _ _ (T21.setTop (mkF m 177 #[.val (.long q0), .second, .val (.long q1), .second, .val (.int p2), .val (.int p3), .val (.int p4), .val (.int (f1 (1 : Int32) (p2 &&& (2147483647 : Int32)))), .val (.int j32_0), .val (.long j46_0), .second, .val (.ref w_SCATTERED), .val (.ref w_LINED), .val (.ref b18), .val (.ref b20), .val (.int (v0_0 q0 q1 p2 p3 p4 w_LINED w_SCATTERED w_C c_C j32_0 j46_0)), .unset, .unset] []))
              refine OGo.st (fun _ k => XS.iload X21.here hx rfl (hb hby at_177) rfl k) ?_
              show OGo p e below s _ _ _ (T21.setTop (mkF m 179 #[.val (.long q0), .second, .val (.long q1), .second, .val (.int p2), .val (.int p3), .val (.int p4), .val (.int (f1 (1 : Int32) (p2 &&& (2147483647 : Int32)))), .val (.int j32_0), .val (.long j46_0), .second, .val (.ref w_SCATTERED), .val (.ref w_LINED), .val (.ref b18), .val (.ref b20), .val (.int (v0_0 q0 q1 p2 p3 p4 w_LINED w_SCATTERED w_C c_C j32_0 j46_0)), .unset, .unset] [(.int (v0_0 q0 q1 p2 p3 p4 w_LINED w_SCATTERED w_C c_C j32_0 j46_0))]))
              refine OGo.st (fun _ k => XS.iconst X21.here hx rfl (hb hby at_179) k) ?_
              show OGo p e below s _ _ _ (T21.setTop (mkF m 180 #[.val (.long q0), .second, .val (.long q1), .second, .val (.int p2), .val (.int p3), .val (.int p4), .val (.int (f1 (1 : Int32) (p2 &&& (2147483647 : Int32)))), .val (.int j32_0), .val (.long j46_0), .second, .val (.ref w_SCATTERED), .val (.ref w_LINED), .val (.ref b18), .val (.ref b20), .val (.int (v0_0 q0 q1 p2 p3 p4 w_LINED w_SCATTERED w_C c_C j32_0 j46_0)), .unset, .unset] [(.int (2 : Int32)), (.int (v0_0 q0 q1 p2 p3 p4 w_LINED w_SCATTERED w_C c_C j32_0 j46_0))]))
              by_cases hc180 : (v0_0 q0 q1 p2 p3 p4 w_LINED w_SCATTERED w_C c_C j32_0 j46_0) = (2 : Int32)
              · refine OGo.st (fun _ k => XS.icmpNo X21.here hx rfl (hb hby at_180) rfl (teq hc180).2 k) ?_
                show OGo p e below s _ _ _ (T21.setTop (mkF m 183 #[.val (.long q0), .second, .val (.long q1), .second, .val (.int p2), .val (.int p3), .val (.int p4), .val (.int (f1 (1 : Int32) (p2 &&& (2147483647 : Int32)))), .val (.int j32_0), .val (.long j46_0), .second, .val (.ref w_SCATTERED), .val (.ref w_LINED), .val (.ref b18), .val (.ref b20), .val (.int (v0_0 q0 q1 p2 p3 p4 w_LINED w_SCATTERED w_C c_C j32_0 j46_0)), .unset, .unset] []))
                refine OGo.st (fun _ k => XS.lloadN X21.here hx rfl (hb hby at_183) rfl k) ?_
                show OGo p e below s _ _ _ (T21.setTop (mkF m 184 #[.val (.long q0), .second, .val (.long q1), .second, .val (.int p2), .val (.int p3), .val (.int p4), .val (.int (f1 (1 : Int32) (p2 &&& (2147483647 : Int32)))), .val (.int j32_0), .val (.long j46_0), .second, .val (.ref w_SCATTERED), .val (.ref w_LINED), .val (.ref b18), .val (.ref b20), .val (.int (v0_0 q0 q1 p2 p3 p4 w_LINED w_SCATTERED w_C c_C j32_0 j46_0)), .unset, .unset] [(.long q0)]))
                obtain ⟨_, _, ⟨T26, L26, k26, n26⟩, -, X26, ⟨Lc26, hQ26, l26, y26, z26⟩, st26⟩ := Jvm.LawKit.callS X21 hx (y := (⟨"java/lang/Long", "valueOf", "(J)Ljava/lang/Long;"⟩ : MethodName)) hown (mvT hZ (hw _ (List.mem_of_getElem? (i := 55) rfl))) (mvT hZ (hw _ (List.mem_of_getElem? (i := 56) rfl))) (mvT hZ (hw _ (List.mem_of_getElem? (i := 57) rfl))) (mvT hZ (hw _ (List.mem_of_getElem? (i := 58) rfl))) (by decide) (backOf (W := 0) (rm7 l Z a0 hw [] q0 w_C (c_C) T21.heap n0 Z21 S_C_w21 hB (hZh ▸ K21)) hZ (hw _ (List.mem_of_getElem? (i := 58) rfl)) (hw _ (List.mem_of_getElem? (i := 57) rfl)) (by decide) (by decide)) (g := (mkF m 184 #[.val (.long q0), .second, .val (.long q1), .second, .val (.int p2), .val (.int p3), .val (.int p4), .val (.int (f1 (1 : Int32) (p2 &&& (2147483647 : Int32)))), .val (.int j32_0), .val (.long j46_0), .second, .val (.ref w_SCATTERED), .val (.ref w_LINED), .val (.ref b18), .val (.ref b20), .val (.int (v0_0 q0 q1 p2 p3 p4 w_LINED w_SCATTERED w_C c_C j32_0 j46_0)), .unset, .unset] [(.long q0)])) rfl (by rw [hml]; rfl) (argsL := [(.long q0)]) (rest := []) (lenOf pd_0_3 rfl) rfl (by show 2 * 0 + _ ≤ _; exact Nat.le_of_eq rfl) (hb hby at_184) (fun _ _ => ⟨rfl, rfl, (by decide : 2 + 1 ≤ _), (by decide : 14 + 1 ≤ _)⟩)
                dsimp only [Pt.U, Pt.locs, Pt.cells, Pt.slots] at X26 l26 y26 z26 st26 hQ26
                subst l26 y26 z26
                obtain ⟨b26, rfl, N26q, Kc26, A26⟩ := hQ26
                have S_LINED_w26 := osta_keep S_LINED_w21 Kc26 (fun _ _ _ _ => nin0)
                have S_SCATTERED_w26 := osta_keep S_SCATTERED_w21 Kc26 (fun _ _ _ _ => nin0)
                have E_LINED_w26 := E_LINED_w21.keep Kc26
                have E_SCATTERED_w26 := E_SCATTERED_w21.keep Kc26
                have O_LINED_lineShift_w26 := O_LINED_lineShift_w21.keep Kc26 nin0
                have O_LINED_ordinal_w26 := O_LINED_ordinal_w21.keep Kc26 nin0
                have O_SCATTERED_lineShift_w26 := O_SCATTERED_lineShift_w21.keep Kc26 nin0
                have O_SCATTERED_ordinal_w26 := O_SCATTERED_ordinal_w21.keep Kc26 nin0
                have S_C_w26 := osta_keep S_C_w21 Kc26 (fun _ _ _ _ => nin0)
                have A18_w26 := A18_w21.keep Kc26
                have G19_0_w26 := G19_0_w21.keep Kc26 nin0
                have G19_1_w26 := G19_1_w21.keep Kc26 nin0
                have G19_2_w26 := G19_2_w21.keep Kc26 nin0
                have A20_w26 := A20_w21.keep Kc26
                have G21_0_w26 := G21_0.keep Kc26 nin0
                have G21_1_w26 := G21_1.keep Kc26 nin0
                have G21_2_w26 := G21_2.keep Kc26 nin0
                have K26 : Keep h0 T26.heap [] := (K21).trans Kc26 all0
                have Z26 : n0 ≤ T26.heap.size := Nat.le_trans Z21 Kc26.1
                have N26 := Fr.app N21 N26q
                refine OGo.st st26 ?_
                show OGo p e below s _ _ _ (T26.setTop (mkF m 187 #[.val (.long q0), .second, .val (.long q1), .second, .val (.int p2), .val (.int p3), .val (.int p4), .val (.int (f1 (1 : Int32) (p2 &&& (2147483647 : Int32)))), .val (.int j32_0), .val (.long j46_0), .second, .val (.ref w_SCATTERED), .val (.ref w_LINED), .val (.ref b18), .val (.ref b20), .val (.int (v0_0 q0 q1 p2 p3 p4 w_LINED w_SCATTERED w_C c_C j32_0 j46_0)), .unset, .unset] [(.ref b26)]))
                refine OGo.st (fun _ k => XS.astore X26.here hx rfl (hb hby at_187) rfl rfl (l' := #[.val (.long q0), .second, .val (.long q1), .second, .val (.int p2), .val (.int p3), .val (.int p4), .val (.int (f1 (1 : Int32) (p2 &&& (2147483647 : Int32)))), .val (.int j32_0), .val (.long j46_0), .second, .val (.ref w_SCATTERED), .val (.ref w_LINED), .val (.ref b18), .val (.ref b20), .val (.int (v0_0 q0 q1 p2 p3 p4 w_LINED w_SCATTERED w_C c_C j32_0 j46_0)), .val (.ref b26), .unset]) rfl k) ?_
                show OGo p e below s _ _ _ (T26.setTop (mkF m 189 #[.val (.long q0), .second, .val (.long q1), .second, .val (.int p2), .val (.int p3), .val (.int p4), .val (.int (f1 (1 : Int32) (p2 &&& (2147483647 : Int32)))), .val (.int j32_0), .val (.long j46_0), .second, .val (.ref w_SCATTERED), .val (.ref w_LINED), .val (.ref b18), .val (.ref b20), .val (.int (v0_0 q0 q1 p2 p3 p4 w_LINED w_SCATTERED w_C c_C j32_0 j46_0)), .val (.ref b26), .unset] []))
                refine OGo.st (fun _ k => XS.iconst X26.here hx rfl (hb hby at_189) k) ?_
                show OGo p e below s _ _ _ (T26.setTop (mkF m 190 #[.val (.long q0), .second, .val (.long q1), .second, .val (.int p2), .val (.int p3), .val (.int p4), .val (.int (f1 (1 : Int32) (p2 &&& (2147483647 : Int32)))), .val (.int j32_0), .val (.long j46_0), .second, .val (.ref w_SCATTERED), .val (.ref w_LINED), .val (.ref b18), .val (.ref b20), .val (.int (v0_0 q0 q1 p2 p3 p4 w_LINED w_SCATTERED w_C c_C j32_0 j46_0)), .val (.ref b26), .unset] [(.int (0 : Int32))]))
                refine OGo.st (fun _ k => XS.istore X26.here hx rfl (hb hby at_190) rfl (l' := #[.val (.long q0), .second, .val (.long q1), .second, .val (.int p2), .val (.int p3), .val (.int p4), .val (.int (f1 (1 : Int32) (p2 &&& (2147483647 : Int32)))), .val (.int j32_0), .val (.long j46_0), .second, .val (.ref w_SCATTERED), .val (.ref w_LINED), .val (.ref b18), .val (.ref b20), .val (.int (v0_0 q0 q1 p2 p3 p4 w_LINED w_SCATTERED w_C c_C j32_0 j46_0)), .val (.ref b26), .val (.int (0 : Int32))]) rfl k) ?_
                show OGo p e below s _ _ _ (T26.setTop (mkF m 192 #[.val (.long q0), .second, .val (.long q1), .second, .val (.int p2), .val (.int p3), .val (.int p4), .val (.int (f1 (1 : Int32) (p2 &&& (2147483647 : Int32)))), .val (.int j32_0), .val (.long j46_0), .second, .val (.ref w_SCATTERED), .val (.ref w_LINED), .val (.ref b18), .val (.ref b20), .val (.int (v0_0 q0 q1 p2 p3 p4 w_LINED w_SCATTERED w_C c_C j32_0 j46_0)), .val (.ref b26), .val (.int (0 : Int32))] []))
                refine OGo.st (fun _ k => XS.goto X26.here hx rfl (pc0 := 192) (pc' := 202) rfl (hb hby at_192) (by decide) (by decide) k) ?_
                show OGo p e below s _ _ _ (T26.setTop (mkF m 202 #[.val (.long q0), .second, .val (.long q1), .second, .val (.int p2), .val (.int p3), .val (.int p4), .val (.int (f1 (1 : Int32) (p2 &&& (2147483647 : Int32)))), .val (.int j32_0), .val (.long j46_0), .second, .val (.ref w_SCATTERED), .val (.ref w_LINED), .val (.ref b18), .val (.ref b20), .val (.int (v0_0 q0 q1 p2 p3 p4 w_LINED w_SCATTERED w_C c_C j32_0 j46_0)), .val (.ref b26), .val (.int (0 : Int32))] []))
                refine OGo.st (fun _ k => XS.aload X26.here hx rfl (hb hby at_202) rfl rfl k) ?_
                show OGo p e below s _ _ _ (T26.setTop (mkF m 204 #[.val (.long q0), .second, .val (.long q1), .second, .val (.int p2), .val (.int p3), .val (.int p4), .val (.int (f1 (1 : Int32) (p2 &&& (2147483647 : Int32)))), .val (.int j32_0), .val (.long j46_0), .second, .val (.ref w_SCATTERED), .val (.ref w_LINED), .val (.ref b18), .val (.ref b20), .val (.int (v0_0 q0 q1 p2 p3 p4 w_LINED w_SCATTERED w_C c_C j32_0 j46_0)), .val (.ref b26), .val (.int (0 : Int32))] [(.ref b18)]))
                refine OGo.st (fun _ k => XS.aload X26.here hx rfl (hb hby at_204) rfl rfl k) ?_
                show OGo p e below s _ _ _ (T26.setTop (mkF m 206 #[.val (.long q0), .second, .val (.long q1), .second, .val (.int p2), .val (.int p3), .val (.int p4), .val (.int (f1 (1 : Int32) (p2 &&& (2147483647 : Int32)))), .val (.int j32_0), .val (.long j46_0), .second, .val (.ref w_SCATTERED), .val (.ref w_LINED), .val (.ref b18), .val (.ref b20), .val (.int (v0_0 q0 q1 p2 p3 p4 w_LINED w_SCATTERED w_C c_C j32_0 j46_0)), .val (.ref b26), .val (.int (0 : Int32))] [(.ref b26), (.ref b18)]))
                obtain ⟨cq27, kq27, q27a, q27b, q27c⟩ := isOf hZ rfl A18_w26
                obtain ⟨_, _, ⟨T27, L27, k27, n27⟩, -, X27, ⟨Lc27, hQ27, l27, y27, z27⟩, st27⟩ := X26.virtualBack hx (y := (⟨"com/example/hazy_set/hazyset/BloomShape", "equals", "(Ljava/lang/Object;)Z"⟩ : MethodName)) (z := (⟨"com/example/hazy_set/hazyset/BloomShape", "equals", "(Ljava/lang/Object;)Z"⟩ : MethodName)) hown (mvT hZ (hw _ (List.mem_of_getElem? (i := 46) rfl))) (mvT hZ (hw _ (List.mem_of_getElem? (i := 47) rfl))) (notFace_of_selects (args := #[]) (mvT hZ (hw _ (List.mem_of_getElem? (i := 49) rfl)))) (mvT hZ (hw _ (List.mem_of_getElem? (i := 49) rfl))) (mvT hZ (hw _ (List.mem_of_getElem? (i := 48) rfl))) (by decide) (backOf (W := 0) (rm6G l Z a0 hw [] b18 b26 T26.heap n0 Z26 A26) hZ (hw _ (List.mem_of_getElem? (i := 50) rfl)) (hw _ (List.mem_of_getElem? (i := 10) rfl)) (by decide) (by decide)) q27a q27c (g := (mkF m 206 #[.val (.long q0), .second, .val (.long q1), .second, .val (.int p2), .val (.int p3), .val (.int p4), .val (.int (f1 (1 : Int32) (p2 &&& (2147483647 : Int32)))), .val (.int j32_0), .val (.long j46_0), .second, .val (.ref w_SCATTERED), .val (.ref w_LINED), .val (.ref b18), .val (.ref b20), .val (.int (v0_0 q0 q1 p2 p3 p4 w_LINED w_SCATTERED w_C c_C j32_0 j46_0)), .val (.ref b26), .val (.int (0 : Int32))] [(.ref b26), (.ref b18)])) rfl (by rw [hml]; rfl) (Steps.refl _) (argsL := [(.ref b26)]) (rest := []) (lenOf pd_0_2 rfl) rfl (by show 2 * 0 + _ ≤ _; exact Nat.le_of_eq rfl) (hb hby at_206) (fun _ _ => ⟨rfl, rfl, (by decide : 3 + 0 ≤ _), (by decide : 15 + 0 ≤ _)⟩)
                dsimp only [Pt.U, Pt.locs, Pt.cells, Pt.slots] at X27 l27 y27 z27 st27 hQ27
                subst l27 y27 z27
                obtain ⟨rfl, N27q, e27⟩ := hQ27
                have hl27 : (f6G) = (0 : Int32) := rfl
                have N27 := Fr.app N26 N27q
                refine OGo.st (fun _ k => st27.trans k) ?_
                show OGo p e below s _ _ _ (T27.setTop (mkF m 209 #[.val (.long q0), .second, .val (.long q1), .second, .val (.int p2), .val (.int p3), .val (.int p4), .val (.int (f1 (1 : Int32) (p2 &&& (2147483647 : Int32)))), .val (.int j32_0), .val (.long j46_0), .second, .val (.ref w_SCATTERED), .val (.ref w_LINED), .val (.ref b18), .val (.ref b20), .val (.int (v0_0 q0 q1 p2 p3 p4 w_LINED w_SCATTERED w_C c_C j32_0 j46_0)), .val (.ref b26), .val (.int (0 : Int32))] [(.int (0 : Int32))]))
                refine OGo.st (fun _ k => XS.iload X27.here hx rfl (hb hby at_209) rfl k) ?_
                show OGo p e below s _ _ _ (T27.setTop (mkF m 211 #[.val (.long q0), .second, .val (.long q1), .second, .val (.int p2), .val (.int p3), .val (.int p4), .val (.int (f1 (1 : Int32) (p2 &&& (2147483647 : Int32)))), .val (.int j32_0), .val (.long j46_0), .second, .val (.ref w_SCATTERED), .val (.ref w_LINED), .val (.ref b18), .val (.ref b20), .val (.int (v0_0 q0 q1 p2 p3 p4 w_LINED w_SCATTERED w_C c_C j32_0 j46_0)), .val (.ref b26), .val (.int (0 : Int32))] [(.int (0 : Int32)), (.int (0 : Int32))]))
                refine OGo.st (fun _ k => XS.icmpNo X27.here hx rfl (hb hby at_211) rfl (teq (by decide : (0 : Int32) = (0 : Int32))).2 k) ?_
                show OGo p e below s _ _ _ (T27.setTop (mkF m 214 #[.val (.long q0), .second, .val (.long q1), .second, .val (.int p2), .val (.int p3), .val (.int p4), .val (.int (f1 (1 : Int32) (p2 &&& (2147483647 : Int32)))), .val (.int j32_0), .val (.long j46_0), .second, .val (.ref w_SCATTERED), .val (.ref w_LINED), .val (.ref b18), .val (.ref b20), .val (.int (v0_0 q0 q1 p2 p3 p4 w_LINED w_SCATTERED w_C c_C j32_0 j46_0)), .val (.ref b26), .val (.int (0 : Int32))] []))
                refine OGo.st (fun _ k => XS.iconst X27.here hx rfl (hb hby at_214) k) ?_
                show OGo p e below s _ _ _ (T27.setTop (mkF m 215 #[.val (.long q0), .second, .val (.long q1), .second, .val (.int p2), .val (.int p3), .val (.int p4), .val (.int (f1 (1 : Int32) (p2 &&& (2147483647 : Int32)))), .val (.int j32_0), .val (.long j46_0), .second, .val (.ref w_SCATTERED), .val (.ref w_LINED), .val (.ref b18), .val (.ref b20), .val (.int (v0_0 q0 q1 p2 p3 p4 w_LINED w_SCATTERED w_C c_C j32_0 j46_0)), .val (.ref b26), .val (.int (0 : Int32))] [(.int (1 : Int32))]))
                refine OGo.st (fun _ k => XS.goto X27.here hx rfl (pc0 := 215) (pc' := 219) rfl (hb hby at_215) (by decide) (by decide) k) ?_
                show OGo p e below s _ _ _ (T27.setTop (mkF m 219 #[.val (.long q0), .second, .val (.long q1), .second, .val (.int p2), .val (.int p3), .val (.int p4), .val (.int (f1 (1 : Int32) (p2 &&& (2147483647 : Int32)))), .val (.int j32_0), .val (.long j46_0), .second, .val (.ref w_SCATTERED), .val (.ref w_LINED), .val (.ref b18), .val (.ref b20), .val (.int (v0_0 q0 q1 p2 p3 p4 w_LINED w_SCATTERED w_C c_C j32_0 j46_0)), .val (.ref b26), .val (.int (0 : Int32))] [(.int (1 : Int32))]))
                exact oretN X27 hx Bd.notSynchronized (t := .boolean) Bd.returns (by simp) (hb hby at_219) (z' := (1 : Int32)) (by decide) e27 ⟨(congrArg (fun z => some (Value.int z)) (show (1 : Int32) = f0 q0 q1 p2 p3 p4 w_LINED w_SCATTERED w_C c_C from Eq.symm (hf46_0.trans (by unfold f0_46; exact (if_pos hc52).trans ((if_neg hc71).trans ((if_neg hc124).trans ((if_neg hc165).trans (if_pos hc180)))))))), N27⟩ (by decide) (by decide)
              · refine OGo.st (fun _ k => XS.icmpYes X21.here hx rfl (pc0 := 180) (pc' := 195) rfl (hb hby at_180) rfl (feq hc180).2 (by decide) (by decide) k) ?_
                show OGo p e below s _ _ _ (T21.setTop (mkF m 195 #[.val (.long q0), .second, .val (.long q1), .second, .val (.int p2), .val (.int p3), .val (.int p4), .val (.int (f1 (1 : Int32) (p2 &&& (2147483647 : Int32)))), .val (.int j32_0), .val (.long j46_0), .second, .val (.ref w_SCATTERED), .val (.ref w_LINED), .val (.ref b18), .val (.ref b20), .val (.int (v0_0 q0 q1 p2 p3 p4 w_LINED w_SCATTERED w_C c_C j32_0 j46_0)), .unset, .unset] []))
                refine OGo.st (fun _ k => XS.aload X21.here hx rfl (hb hby at_195) rfl rfl k) ?_
                show OGo p e below s _ _ _ (T21.setTop (mkF m 197 #[.val (.long q0), .second, .val (.long q1), .second, .val (.int p2), .val (.int p3), .val (.int p4), .val (.int (f1 (1 : Int32) (p2 &&& (2147483647 : Int32)))), .val (.int j32_0), .val (.long j46_0), .second, .val (.ref w_SCATTERED), .val (.ref w_LINED), .val (.ref b18), .val (.ref b20), .val (.int (v0_0 q0 q1 p2 p3 p4 w_LINED w_SCATTERED w_C c_C j32_0 j46_0)), .unset, .unset] [(.ref b18)]))
                refine OGo.st (fun _ k => XS.astore X21.here hx rfl (hb hby at_197) rfl rfl (l' := #[.val (.long q0), .second, .val (.long q1), .second, .val (.int p2), .val (.int p3), .val (.int p4), .val (.int (f1 (1 : Int32) (p2 &&& (2147483647 : Int32)))), .val (.int j32_0), .val (.long j46_0), .second, .val (.ref w_SCATTERED), .val (.ref w_LINED), .val (.ref b18), .val (.ref b20), .val (.int (v0_0 q0 q1 p2 p3 p4 w_LINED w_SCATTERED w_C c_C j32_0 j46_0)), .val (.ref b18), .unset]) rfl k) ?_
                show OGo p e below s _ _ _ (T21.setTop (mkF m 199 #[.val (.long q0), .second, .val (.long q1), .second, .val (.int p2), .val (.int p3), .val (.int p4), .val (.int (f1 (1 : Int32) (p2 &&& (2147483647 : Int32)))), .val (.int j32_0), .val (.long j46_0), .second, .val (.ref w_SCATTERED), .val (.ref w_LINED), .val (.ref b18), .val (.ref b20), .val (.int (v0_0 q0 q1 p2 p3 p4 w_LINED w_SCATTERED w_C c_C j32_0 j46_0)), .val (.ref b18), .unset] []))
                refine OGo.st (fun _ k => XS.iconst X21.here hx rfl (hb hby at_199) k) ?_
                show OGo p e below s _ _ _ (T21.setTop (mkF m 200 #[.val (.long q0), .second, .val (.long q1), .second, .val (.int p2), .val (.int p3), .val (.int p4), .val (.int (f1 (1 : Int32) (p2 &&& (2147483647 : Int32)))), .val (.int j32_0), .val (.long j46_0), .second, .val (.ref w_SCATTERED), .val (.ref w_LINED), .val (.ref b18), .val (.ref b20), .val (.int (v0_0 q0 q1 p2 p3 p4 w_LINED w_SCATTERED w_C c_C j32_0 j46_0)), .val (.ref b18), .unset] [(.int (1 : Int32))]))
                refine OGo.st (fun _ k => XS.istore X21.here hx rfl (hb hby at_200) rfl (l' := #[.val (.long q0), .second, .val (.long q1), .second, .val (.int p2), .val (.int p3), .val (.int p4), .val (.int (f1 (1 : Int32) (p2 &&& (2147483647 : Int32)))), .val (.int j32_0), .val (.long j46_0), .second, .val (.ref w_SCATTERED), .val (.ref w_LINED), .val (.ref b18), .val (.ref b20), .val (.int (v0_0 q0 q1 p2 p3 p4 w_LINED w_SCATTERED w_C c_C j32_0 j46_0)), .val (.ref b18), .val (.int (1 : Int32))]) rfl k) ?_
                show OGo p e below s _ _ _ (T21.setTop (mkF m 202 #[.val (.long q0), .second, .val (.long q1), .second, .val (.int p2), .val (.int p3), .val (.int p4), .val (.int (f1 (1 : Int32) (p2 &&& (2147483647 : Int32)))), .val (.int j32_0), .val (.long j46_0), .second, .val (.ref w_SCATTERED), .val (.ref w_LINED), .val (.ref b18), .val (.ref b20), .val (.int (v0_0 q0 q1 p2 p3 p4 w_LINED w_SCATTERED w_C c_C j32_0 j46_0)), .val (.ref b18), .val (.int (1 : Int32))] []))
                refine OGo.st (fun _ k => XS.aload X21.here hx rfl (hb hby at_202) rfl rfl k) ?_
                show OGo p e below s _ _ _ (T21.setTop (mkF m 204 #[.val (.long q0), .second, .val (.long q1), .second, .val (.int p2), .val (.int p3), .val (.int p4), .val (.int (f1 (1 : Int32) (p2 &&& (2147483647 : Int32)))), .val (.int j32_0), .val (.long j46_0), .second, .val (.ref w_SCATTERED), .val (.ref w_LINED), .val (.ref b18), .val (.ref b20), .val (.int (v0_0 q0 q1 p2 p3 p4 w_LINED w_SCATTERED w_C c_C j32_0 j46_0)), .val (.ref b18), .val (.int (1 : Int32))] [(.ref b18)]))
                refine OGo.st (fun _ k => XS.aload X21.here hx rfl (hb hby at_204) rfl rfl k) ?_
                show OGo p e below s _ _ _ (T21.setTop (mkF m 206 #[.val (.long q0), .second, .val (.long q1), .second, .val (.int p2), .val (.int p3), .val (.int p4), .val (.int (f1 (1 : Int32) (p2 &&& (2147483647 : Int32)))), .val (.int j32_0), .val (.long j46_0), .second, .val (.ref w_SCATTERED), .val (.ref w_LINED), .val (.ref b18), .val (.ref b20), .val (.int (v0_0 q0 q1 p2 p3 p4 w_LINED w_SCATTERED w_C c_C j32_0 j46_0)), .val (.ref b18), .val (.int (1 : Int32))] [(.ref b18), (.ref b18)]))
                obtain ⟨cq28, kq28, q28a, q28b, q28c⟩ := isOf hZ rfl A18_w21
                obtain ⟨_, _, ⟨T28, L28, k28, n28⟩, -, X28, ⟨Lc28, hQ28, l28, y28, z28⟩, st28⟩ := X21.virtualBack hx (y := (⟨"com/example/hazy_set/hazyset/BloomShape", "equals", "(Ljava/lang/Object;)Z"⟩ : MethodName)) (z := (⟨"com/example/hazy_set/hazyset/BloomShape", "equals", "(Ljava/lang/Object;)Z"⟩ : MethodName)) hown (mvT hZ (hw _ (List.mem_of_getElem? (i := 46) rfl))) (mvT hZ (hw _ (List.mem_of_getElem? (i := 47) rfl))) (notFace_of_selects (args := #[]) (mvT hZ (hw _ (List.mem_of_getElem? (i := 49) rfl)))) (mvT hZ (hw _ (List.mem_of_getElem? (i := 49) rfl))) (mvT hZ (hw _ (List.mem_of_getElem? (i := 48) rfl))) (by decide) (backOf (W := 0) (rm6B l Z a0 hw [] b18 b18 q0 (f1 (1 : Int32) (p2 &&& (2147483647 : Int32))) w_SCATTERED q0 (f1 (1 : Int32) (p2 &&& (2147483647 : Int32))) w_SCATTERED T21.heap n0 Z21 A18_w21 G19_0_w21 G19_1_w21 G19_2_w21 A18_w21 G19_0_w21 G19_1_w21 G19_2_w21) hZ (hw _ (List.mem_of_getElem? (i := 50) rfl)) (hw _ (List.mem_of_getElem? (i := 10) rfl)) (by decide) (by decide)) q28a q28c (g := (mkF m 206 #[.val (.long q0), .second, .val (.long q1), .second, .val (.int p2), .val (.int p3), .val (.int p4), .val (.int (f1 (1 : Int32) (p2 &&& (2147483647 : Int32)))), .val (.int j32_0), .val (.long j46_0), .second, .val (.ref w_SCATTERED), .val (.ref w_LINED), .val (.ref b18), .val (.ref b20), .val (.int (v0_0 q0 q1 p2 p3 p4 w_LINED w_SCATTERED w_C c_C j32_0 j46_0)), .val (.ref b18), .val (.int (1 : Int32))] [(.ref b18), (.ref b18)])) rfl (by rw [hml]; rfl) (Steps.refl _) (argsL := [(.ref b18)]) (rest := []) (lenOf pd_0_2 rfl) rfl (by show 2 * 0 + _ ≤ _; exact Nat.le_of_eq rfl) (hb hby at_206) (fun _ _ => ⟨rfl, rfl, (by decide : 2 + 0 ≤ _), (by decide : 14 + 0 ≤ _)⟩)
                dsimp only [Pt.U, Pt.locs, Pt.cells, Pt.slots] at X28 l28 y28 z28 st28 hQ28
                subst l28 y28 z28
                obtain ⟨rfl, N28q, e28⟩ := hQ28
                have N28 := Fr.app N21 N28q
                refine OGo.st (fun _ k => st28.trans k) ?_
                show OGo p e below s _ _ _ (T28.setTop (mkF m 209 #[.val (.long q0), .second, .val (.long q1), .second, .val (.int p2), .val (.int p3), .val (.int p4), .val (.int (f1 (1 : Int32) (p2 &&& (2147483647 : Int32)))), .val (.int j32_0), .val (.long j46_0), .second, .val (.ref w_SCATTERED), .val (.ref w_LINED), .val (.ref b18), .val (.ref b20), .val (.int (v0_0 q0 q1 p2 p3 p4 w_LINED w_SCATTERED w_C c_C j32_0 j46_0)), .val (.ref b18), .val (.int (1 : Int32))] [(.int (f6B q0 (f1 (1 : Int32) (p2 &&& (2147483647 : Int32))) w_SCATTERED q0 (f1 (1 : Int32) (p2 &&& (2147483647 : Int32))) w_SCATTERED))]))
                refine OGo.st (fun _ k => XS.iload X28.here hx rfl (hb hby at_209) rfl k) ?_
                show OGo p e below s _ _ _ (T28.setTop (mkF m 211 #[.val (.long q0), .second, .val (.long q1), .second, .val (.int p2), .val (.int p3), .val (.int p4), .val (.int (f1 (1 : Int32) (p2 &&& (2147483647 : Int32)))), .val (.int j32_0), .val (.long j46_0), .second, .val (.ref w_SCATTERED), .val (.ref w_LINED), .val (.ref b18), .val (.ref b20), .val (.int (v0_0 q0 q1 p2 p3 p4 w_LINED w_SCATTERED w_C c_C j32_0 j46_0)), .val (.ref b18), .val (.int (1 : Int32))] [(.int (1 : Int32)), (.int (f6B q0 (f1 (1 : Int32) (p2 &&& (2147483647 : Int32))) w_SCATTERED q0 (f1 (1 : Int32) (p2 &&& (2147483647 : Int32))) w_SCATTERED))]))
                by_cases hc211 : (f6B q0 (f1 (1 : Int32) (p2 &&& (2147483647 : Int32))) w_SCATTERED q0 (f1 (1 : Int32) (p2 &&& (2147483647 : Int32))) w_SCATTERED) = (1 : Int32)
                · refine OGo.st (fun _ k => XS.icmpNo X28.here hx rfl (hb hby at_211) rfl (teq hc211).2 k) ?_
                  show OGo p e below s _ _ _ (T28.setTop (mkF m 214 #[.val (.long q0), .second, .val (.long q1), .second, .val (.int p2), .val (.int p3), .val (.int p4), .val (.int (f1 (1 : Int32) (p2 &&& (2147483647 : Int32)))), .val (.int j32_0), .val (.long j46_0), .second, .val (.ref w_SCATTERED), .val (.ref w_LINED), .val (.ref b18), .val (.ref b20), .val (.int (v0_0 q0 q1 p2 p3 p4 w_LINED w_SCATTERED w_C c_C j32_0 j46_0)), .val (.ref b18), .val (.int (1 : Int32))] []))
                  refine OGo.st (fun _ k => XS.iconst X28.here hx rfl (hb hby at_214) k) ?_
                  show OGo p e below s _ _ _ (T28.setTop (mkF m 215 #[.val (.long q0), .second, .val (.long q1), .second, .val (.int p2), .val (.int p3), .val (.int p4), .val (.int (f1 (1 : Int32) (p2 &&& (2147483647 : Int32)))), .val (.int j32_0), .val (.long j46_0), .second, .val (.ref w_SCATTERED), .val (.ref w_LINED), .val (.ref b18), .val (.ref b20), .val (.int (v0_0 q0 q1 p2 p3 p4 w_LINED w_SCATTERED w_C c_C j32_0 j46_0)), .val (.ref b18), .val (.int (1 : Int32))] [(.int (1 : Int32))]))
                  refine OGo.st (fun _ k => XS.goto X28.here hx rfl (pc0 := 215) (pc' := 219) rfl (hb hby at_215) (by decide) (by decide) k) ?_
                  show OGo p e below s _ _ _ (T28.setTop (mkF m 219 #[.val (.long q0), .second, .val (.long q1), .second, .val (.int p2), .val (.int p3), .val (.int p4), .val (.int (f1 (1 : Int32) (p2 &&& (2147483647 : Int32)))), .val (.int j32_0), .val (.long j46_0), .second, .val (.ref w_SCATTERED), .val (.ref w_LINED), .val (.ref b18), .val (.ref b20), .val (.int (v0_0 q0 q1 p2 p3 p4 w_LINED w_SCATTERED w_C c_C j32_0 j46_0)), .val (.ref b18), .val (.int (1 : Int32))] [(.int (1 : Int32))]))
                  exact oretN X28 hx Bd.notSynchronized (t := .boolean) Bd.returns (by simp) (hb hby at_219) (z' := (1 : Int32)) (by decide) e28 ⟨(congrArg (fun z => some (Value.int z)) (show (1 : Int32) = f0 q0 q1 p2 p3 p4 w_LINED w_SCATTERED w_C c_C from Eq.symm (hf46_0.trans (by unfold f0_46; exact (if_pos hc52).trans ((if_neg hc71).trans ((if_neg hc124).trans ((if_neg hc165).trans ((if_neg hc180).trans (if_pos hc211))))))))), N28⟩ (by decide) (by decide)
                · refine OGo.st (fun _ k => XS.icmpYes X28.here hx rfl (pc0 := 211) (pc' := 218) rfl (hb hby at_211) rfl (feq hc211).2 (by decide) (by decide) k) ?_
                  show OGo p e below s _ _ _ (T28.setTop (mkF m 218 #[.val (.long q0), .second, .val (.long q1), .second, .val (.int p2), .val (.int p3), .val (.int p4), .val (.int (f1 (1 : Int32) (p2 &&& (2147483647 : Int32)))), .val (.int j32_0), .val (.long j46_0), .second, .val (.ref w_SCATTERED), .val (.ref w_LINED), .val (.ref b18), .val (.ref b20), .val (.int (v0_0 q0 q1 p2 p3 p4 w_LINED w_SCATTERED w_C c_C j32_0 j46_0)), .val (.ref b18), .val (.int (1 : Int32))] []))
                  refine OGo.st (fun _ k => XS.iconst X28.here hx rfl (hb hby at_218) k) ?_
                  show OGo p e below s _ _ _ (T28.setTop (mkF m 219 #[.val (.long q0), .second, .val (.long q1), .second, .val (.int p2), .val (.int p3), .val (.int p4), .val (.int (f1 (1 : Int32) (p2 &&& (2147483647 : Int32)))), .val (.int j32_0), .val (.long j46_0), .second, .val (.ref w_SCATTERED), .val (.ref w_LINED), .val (.ref b18), .val (.ref b20), .val (.int (v0_0 q0 q1 p2 p3 p4 w_LINED w_SCATTERED w_C c_C j32_0 j46_0)), .val (.ref b18), .val (.int (1 : Int32))] [(.int (0 : Int32))]))
                  exact oretN X28 hx Bd.notSynchronized (t := .boolean) Bd.returns (by simp) (hb hby at_219) (z' := (0 : Int32)) (by decide) e28 ⟨(congrArg (fun z => some (Value.int z)) (show (0 : Int32) = f0 q0 q1 p2 p3 p4 w_LINED w_SCATTERED w_C c_C from Eq.symm (hf46_0.trans (by unfold f0_46; exact (if_pos hc52).trans ((if_neg hc71).trans ((if_neg hc124).trans ((if_neg hc165).trans ((if_neg hc180).trans (if_neg hc211))))))))), N28⟩ (by decide) (by decide)
      · refine OGo.st (fun _ k => XS.ifNo X2.here hx rfl (hb hby at_52) rfl ((if0 _ _).trans (feq hc52).1) k) ?_
        show OGo p e below s _ _ _ (T2.setTop (mkF m 55 #[.val (.long q0), .second, .val (.long q1), .second, .val (.int p2), .val (.int p3), .val (.int p4), .val (.int (f1 (1 : Int32) (p2 &&& (2147483647 : Int32)))), .val (.int j32_0), .val (.long j46_0), .second, .unset, .unset, .unset, .unset, .unset, .unset, .unset] []))
        obtain ⟨T29, X29, e29, st29⟩ := getS2 X2 hx hZ hown (host := "") (Or.inl (hw _ (List.mem_of_getElem? (i := 53) rfl))) Via.refl e2 S_LINED (g := (mkF m 55 #[.val (.long q0), .second, .val (.long q1), .second, .val (.int p2), .val (.int p3), .val (.int p4), .val (.int (f1 (1 : Int32) (p2 &&& (2147483647 : Int32)))), .val (.int j32_0), .val (.long j46_0), .second, .unset, .unset, .unset, .unset, .unset, .unset, .unset] [])) rfl (hb hby at_55)
        refine OGo.st st29 ?_
        show OGo p e below s _ _ _ (T29.setTop (mkF m 58 #[.val (.long q0), .second, .val (.long q1), .second, .val (.int p2), .val (.int p3), .val (.int p4), .val (.int (f1 (1 : Int32) (p2 &&& (2147483647 : Int32)))), .val (.int j32_0), .val (.long j46_0), .second, .unset, .unset, .unset, .unset, .unset, .unset, .unset] [(.ref w_LINED)]))
        refine OGo.st (fun _ k => XS.goto X29.here hx rfl (pc0 := 58) (pc' := 64) rfl (hb hby at_58) (by decide) (by decide) k) ?_
        show OGo p e below s _ _ _ (T29.setTop (mkF m 64 #[.val (.long q0), .second, .val (.long q1), .second, .val (.int p2), .val (.int p3), .val (.int p4), .val (.int (f1 (1 : Int32) (p2 &&& (2147483647 : Int32)))), .val (.int j32_0), .val (.long j46_0), .second, .unset, .unset, .unset, .unset, .unset, .unset, .unset] [(.ref w_LINED)]))
        refine OGo.st (fun _ k => XS.astore X29.here hx rfl (hb hby at_64) rfl rfl (l' := #[.val (.long q0), .second, .val (.long q1), .second, .val (.int p2), .val (.int p3), .val (.int p4), .val (.int (f1 (1 : Int32) (p2 &&& (2147483647 : Int32)))), .val (.int j32_0), .val (.long j46_0), .second, .val (.ref w_LINED), .unset, .unset, .unset, .unset, .unset, .unset]) rfl k) ?_
        show OGo p e below s _ _ _ (T29.setTop (mkF m 66 #[.val (.long q0), .second, .val (.long q1), .second, .val (.int p2), .val (.int p3), .val (.int p4), .val (.int (f1 (1 : Int32) (p2 &&& (2147483647 : Int32)))), .val (.int j32_0), .val (.long j46_0), .second, .val (.ref w_LINED), .unset, .unset, .unset, .unset, .unset, .unset] []))
        refine OGo.st (fun _ k => XS.iload X29.here hx rfl (hb hby at_66) rfl k) ?_
        show OGo p e below s _ _ _ (T29.setTop (mkF m 68 #[.val (.long q0), .second, .val (.long q1), .second, .val (.int p2), .val (.int p3), .val (.int p4), .val (.int (f1 (1 : Int32) (p2 &&& (2147483647 : Int32)))), .val (.int j32_0), .val (.long j46_0), .second, .val (.ref w_LINED), .unset, .unset, .unset, .unset, .unset, .unset] [(.int p4)]))
        refine OGo.st (fun _ k => XS.bipush X29.here hx rfl (hb hby at_68) k) ?_
        show OGo p e below s _ _ _ (T29.setTop (mkF m 70 #[.val (.long q0), .second, .val (.long q1), .second, .val (.int p2), .val (.int p3), .val (.int p4), .val (.int (f1 (1 : Int32) (p2 &&& (2147483647 : Int32)))), .val (.int j32_0), .val (.long j46_0), .second, .val (.ref w_LINED), .unset, .unset, .unset, .unset, .unset, .unset] [(.int (8 : Int32)), (.int p4)]))
        refine OGo.st (fun _ k => XS.iand X29.here hx rfl (hb hby at_70) rfl k) ?_
        show OGo p e below s _ _ _ (T29.setTop (mkF m 71 #[.val (.long q0), .second, .val (.long q1), .second, .val (.int p2), .val (.int p3), .val (.int p4), .val (.int (f1 (1 : Int32) (p2 &&& (2147483647 : Int32)))), .val (.int j32_0), .val (.long j46_0), .second, .val (.ref w_LINED), .unset, .unset, .unset, .unset, .unset, .unset] [(.int (p4 &&& (8 : Int32)))]))
        by_cases hc71 : (p4 &&& (8 : Int32)) = (0 : Int32)
        · refine OGo.st (fun _ k => XS.ifYes X29.here hx rfl (pc0 := 71) (pc' := 80) rfl (hb hby at_71) rfl ((if0 _ _).trans (teq hc71).1) (by decide) (by decide) k) ?_
          show OGo p e below s _ _ _ (T29.setTop (mkF m 80 #[.val (.long q0), .second, .val (.long q1), .second, .val (.int p2), .val (.int p3), .val (.int p4), .val (.int (f1 (1 : Int32) (p2 &&& (2147483647 : Int32)))), .val (.int j32_0), .val (.long j46_0), .second, .val (.ref w_LINED), .unset, .unset, .unset, .unset, .unset, .unset] []))
          obtain ⟨T30, X30, e30, st30⟩ := getS2 X29 hx hZ hown (host := "") (Or.inl (hw _ (List.mem_of_getElem? (i := 5) rfl))) Via.refl e29 S_SCATTERED (g := (mkF m 80 #[.val (.long q0), .second, .val (.long q1), .second, .val (.int p2), .val (.int p3), .val (.int p4), .val (.int (f1 (1 : Int32) (p2 &&& (2147483647 : Int32)))), .val (.int j32_0), .val (.long j46_0), .second, .val (.ref w_LINED), .unset, .unset, .unset, .unset, .unset, .unset] [])) rfl (hb hby at_80)
          refine OGo.st st30 ?_
          show OGo p e below s _ _ _ (T30.setTop (mkF m 83 #[.val (.long q0), .second, .val (.long q1), .second, .val (.int p2), .val (.int p3), .val (.int p4), .val (.int (f1 (1 : Int32) (p2 &&& (2147483647 : Int32)))), .val (.int j32_0), .val (.long j46_0), .second, .val (.ref w_LINED), .unset, .unset, .unset, .unset, .unset, .unset] [(.ref w_SCATTERED)]))
          refine OGo.st (fun _ k => XS.astore X30.here hx rfl (hb hby at_83) rfl rfl (l' := #[.val (.long q0), .second, .val (.long q1), .second, .val (.int p2), .val (.int p3), .val (.int p4), .val (.int (f1 (1 : Int32) (p2 &&& (2147483647 : Int32)))), .val (.int j32_0), .val (.long j46_0), .second, .val (.ref w_LINED), .val (.ref w_SCATTERED), .unset, .unset, .unset, .unset, .unset]) rfl k) ?_
          show OGo p e below s _ _ _ (T30.setTop (mkF m 85 #[.val (.long q0), .second, .val (.long q1), .second, .val (.int p2), .val (.int p3), .val (.int p4), .val (.int (f1 (1 : Int32) (p2 &&& (2147483647 : Int32)))), .val (.int j32_0), .val (.long j46_0), .second, .val (.ref w_LINED), .val (.ref w_SCATTERED), .unset, .unset, .unset, .unset, .unset] []))
          obtain ⟨T31, h31, X31, e31, E31, A31, D31, U31, st31⟩ := newO X30 hx hZ hown (hw _ (List.mem_of_getElem? (i := 8) rfl)) (hw _ (List.mem_of_getElem? (i := 9) rfl)) (hw _ (List.mem_of_getElem? (i := 10) rfl)) e30 (g := (mkF m 85 #[.val (.long q0), .second, .val (.long q1), .second, .val (.int p2), .val (.int p3), .val (.int p4), .val (.int (f1 (1 : Int32) (p2 &&& (2147483647 : Int32)))), .val (.int j32_0), .val (.long j46_0), .second, .val (.ref w_LINED), .val (.ref w_SCATTERED), .unset, .unset, .unset, .unset, .unset] [])) rfl (hb hby at_85) (by decide) (by decide)
          obtain ⟨b31, g31⟩ : ∃ z, z = h0.size := ⟨_, rfl⟩
          rw [← g31] at A31 D31 U31 st31
          refine OGo.st st31 ?_
          have S_LINED_w31 := S_LINED.ext E31
          have S_SCATTERED_w31 := S_SCATTERED.ext E31
          have E_LINED_w31 := E_LINED.ext E31
          have ne_w_LINED_b31 : w_LINED ≠ b31 := Nat.ne_of_lt (Nat.lt_of_lt_of_le E_LINED.lt (Nat.le_of_eq g31.symm))
          have E_SCATTERED_w31 := E_SCATTERED.ext E31
          have ne_w_SCATTERED_b31 : w_SCATTERED ≠ b31 := Nat.ne_of_lt (Nat.lt_of_lt_of_le E_SCATTERED.lt (Nat.le_of_eq g31.symm))
          have O_LINED_lineShift_w31 := O_LINED_lineShift.ext E31
          have O_LINED_ordinal_w31 := O_LINED_ordinal.ext E31
          have O_SCATTERED_lineShift_w31 := O_SCATTERED_lineShift.ext E31
          have O_SCATTERED_ordinal_w31 := O_SCATTERED_ordinal.ext E31
          have S_C_w31 := S_C.ext E31
          have g_b31 : n0 ≤ b31 := Nat.le_trans Z0 (Nat.le_of_eq g31.symm)
          have sz_b31 : h0.size ≤ b31 := Nat.le_trans (Keep.refl h0 []).1 (Nat.le_of_eq g31.symm)
          have K31 : Keep h0 h31 [] := (Keep.refl h0 _).ext E31
          have Z31 : n0 ≤ h31.size := Nat.le_trans Z0 E31.1
          have F_bitCount_b31 : Fld Z h31 b31 "com/example/hazy_set/hazyset/BloomShape" "bitCount" "J" (.long (0 : Int64)) := D31 (Or.inr (hw _ (List.mem_of_getElem? (i := 18) rfl))) (ty := .long) (by decide)
          have F_hashCount_b31 : Fld Z h31 b31 "com/example/hazy_set/hazyset/BloomShape" "hashCount" "I" (.int (0 : Int32)) := D31 (Or.inr (hw _ (List.mem_of_getElem? (i := 20) rfl))) (ty := .int) (by decide)
          have F_layout_b31 : Fld Z h31 b31 "com/example/hazy_set/hazyset/BloomShape" "layout" "Lcom/example/hazy_set/hazyset/BloomShape$Layout;" .null := D31 (Or.inr (hw _ (List.mem_of_getElem? (i := 22) rfl))) (ty := (.object "com/example/hazy_set/hazyset/BloomShape$Layout")) (by decide)
          have F_lineCount_b31 : Fld Z h31 b31 "com/example/hazy_set/hazyset/BloomShape" "lineCount" "J" (.long (0 : Int64)) := D31 (Or.inr (hw _ (List.mem_of_getElem? (i := 26) rfl))) (ty := .long) (by decide)
          have F_linesPerElement_b31 : Fld Z h31 b31 "com/example/hazy_set/hazyset/BloomShape" "linesPerElement" "I" (.int (0 : Int32)) := D31 (Or.inr (hw _ (List.mem_of_getElem? (i := 41) rfl))) (ty := .int) (by decide)
          have F_bitsPerLine_b31 : Fld Z h31 b31 "com/example/hazy_set/hazyset/BloomShape" "bitsPerLine" "I" (.int (0 : Int32)) := D31 (Or.inr (hw _ (List.mem_of_getElem? (i := 43) rfl))) (ty := .int) (by decide)
          have F_longerLines_b31 : Fld Z h31 b31 "com/example/hazy_set/hazyset/BloomShape" "longerLines" "I" (.int (0 : Int32)) := D31 (Or.inr (hw _ (List.mem_of_getElem? (i := 45) rfl))) (ty := .int) (by decide)
          show OGo p e below s _ _ _ (T31.setTop (mkF m 88 #[.val (.long q0), .second, .val (.long q1), .second, .val (.int p2), .val (.int p3), .val (.int p4), .val (.int (f1 (1 : Int32) (p2 &&& (2147483647 : Int32)))), .val (.int j32_0), .val (.long j46_0), .second, .val (.ref w_LINED), .val (.ref w_SCATTERED), .unset, .unset, .unset, .unset, .unset] [(.ref b31)]))
          refine OGo.st (fun _ k => XS.dup X31.here hx rfl (hb hby at_88) rfl rfl k) ?_
          show OGo p e below s _ _ _ (T31.setTop (mkF m 89 #[.val (.long q0), .second, .val (.long q1), .second, .val (.int p2), .val (.int p3), .val (.int p4), .val (.int (f1 (1 : Int32) (p2 &&& (2147483647 : Int32)))), .val (.int j32_0), .val (.long j46_0), .second, .val (.ref w_LINED), .val (.ref w_SCATTERED), .unset, .unset, .unset, .unset, .unset] [(.ref b31), (.ref b31)]))
          refine OGo.st (fun _ k => XS.lloadN X31.here hx rfl (hb hby at_89) rfl k) ?_
          show OGo p e below s _ _ _ (T31.setTop (mkF m 90 #[.val (.long q0), .second, .val (.long q1), .second, .val (.int p2), .val (.int p3), .val (.int p4), .val (.int (f1 (1 : Int32) (p2 &&& (2147483647 : Int32)))), .val (.int j32_0), .val (.long j46_0), .second, .val (.ref w_LINED), .val (.ref w_SCATTERED), .unset, .unset, .unset, .unset, .unset] [(.long q0), (.ref b31), (.ref b31)]))
          refine OGo.st (fun _ k => XS.iload X31.here hx rfl (hb hby at_90) rfl k) ?_
          show OGo p e below s _ _ _ (T31.setTop (mkF m 92 #[.val (.long q0), .second, .val (.long q1), .second, .val (.int p2), .val (.int p3), .val (.int p4), .val (.int (f1 (1 : Int32) (p2 &&& (2147483647 : Int32)))), .val (.int j32_0), .val (.long j46_0), .second, .val (.ref w_LINED), .val (.ref w_SCATTERED), .unset, .unset, .unset, .unset, .unset] [(.int (f1 (1 : Int32) (p2 &&& (2147483647 : Int32)))), (.long q0), (.ref b31), (.ref b31)]))
          refine OGo.st (fun _ k => XS.aload X31.here hx rfl (hb hby at_92) rfl rfl k) ?_
          show OGo p e below s _ _ _ (T31.setTop (mkF m 94 #[.val (.long q0), .second, .val (.long q1), .second, .val (.int p2), .val (.int p3), .val (.int p4), .val (.int (f1 (1 : Int32) (p2 &&& (2147483647 : Int32)))), .val (.int j32_0), .val (.long j46_0), .second, .val (.ref w_LINED), .val (.ref w_SCATTERED), .unset, .unset, .unset, .unset, .unset] [(.ref w_LINED), (.int (f1 (1 : Int32) (p2 &&& (2147483647 : Int32)))), (.long q0), (.ref b31), (.ref b31)]))
          obtain ⟨_, _, ⟨T32, L32, k32, n32⟩, -, X32, ⟨Lc32, hQ32, l32, y32, z32⟩, st32⟩ := X31.specialBack hx (y := (⟨"com/example/hazy_set/hazyset/BloomShape", "<init>", "(JILcom/example/hazy_set/hazyset/BloomShape$Layout;)V"⟩ : MethodName)) rfl hown (mvT hZ (hw _ (List.mem_of_getElem? (i := 11) rfl))) (mvT hZ (hw _ (List.mem_of_getElem? (i := 12) rfl))) (mvT hZ (hw _ (List.mem_of_getElem? (i := 13) rfl))) (by decide) (backOf (W := 1) (rm2L l Z a0 hw [] b31 q0 (f1 (1 : Int32) (p2 &&& (2147483647 : Int32))) w_LINED h31 n0 Z31 A31 F_bitCount_b31 F_hashCount_b31 F_layout_b31 F_lineCount_b31 F_linesPerElement_b31 F_bitsPerLine_b31 F_longerLines_b31 E_LINED_w31 O_LINED_lineShift_w31 O_LINED_ordinal_w31 g_b31 ne_w_LINED_b31 (own_pos _)) hZ (hw _ (List.mem_of_getElem? (i := 13) rfl)) (hw _ (List.mem_of_getElem? (i := 10) rfl)) (by decide) (by decide)) (g := (mkF m 94 #[.val (.long q0), .second, .val (.long q1), .second, .val (.int p2), .val (.int p3), .val (.int p4), .val (.int (f1 (1 : Int32) (p2 &&& (2147483647 : Int32)))), .val (.int j32_0), .val (.long j46_0), .second, .val (.ref w_LINED), .val (.ref w_SCATTERED), .unset, .unset, .unset, .unset, .unset] [(.ref w_LINED), (.int (f1 (1 : Int32) (p2 &&& (2147483647 : Int32)))), (.long q0), (.ref b31), (.ref b31)])) rfl (by rw [hml]; rfl) (Steps.refl _) (a := b31) (argsL := [(.long q0), (.int (f1 (1 : Int32) (p2 &&& (2147483647 : Int32)))), (.ref w_LINED)]) (rest := [(.ref b31)]) (lenOf pd_0_1 rfl) rfl (by show 2 * 0 + _ ≤ _; exact Nat.le_of_eq rfl) (hb hby at_94) (fun _ _ => ⟨rfl, e31, (by decide : 1 + 0 ≤ _), (by decide : 7 + 0 ≤ _)⟩)
          dsimp only [Pt.U, Pt.locs, Pt.cells, Pt.slots] at X32 l32 y32 z32 st32 hQ32
          subst l32 y32 z32
          obtain ⟨rfl, N32q, Kc32, G32_0, G32_1, G32_2⟩ := hQ32
          have S_LINED_w32 := osta_keep S_LINED_w31 Kc32 (osta_exa A31 (fun _ _ _ _ => nin0))
          have S_SCATTERED_w32 := osta_keep S_SCATTERED_w31 Kc32 (osta_exa A31 (fun _ _ _ _ => nin0))
          have E_LINED_w32 := E_LINED_w31.keep Kc32
          have E_SCATTERED_w32 := E_SCATTERED_w31.keep Kc32
          have O_LINED_lineShift_w32 := O_LINED_lineShift_w31.keep Kc32 (ninS ne_w_LINED_b31 nin0)
          have O_LINED_ordinal_w32 := O_LINED_ordinal_w31.keep Kc32 (ninS ne_w_LINED_b31 nin0)
          have O_SCATTERED_lineShift_w32 := O_SCATTERED_lineShift_w31.keep Kc32 (ninS ne_w_SCATTERED_b31 nin0)
          have O_SCATTERED_ordinal_w32 := O_SCATTERED_ordinal_w31.keep Kc32 (ninS ne_w_SCATTERED_b31 nin0)
          have S_C_w32 := osta_keep S_C_w31 Kc32 (osta_exa A31 (fun _ _ _ _ => nin0))
          have A31_w32 := A31.keep Kc32
          have K32 : Keep h0 T32.heap [] := (K31).trans Kc32 (allS (Or.inr sz_b31) all0)
          have Z32 : n0 ≤ T32.heap.size := Nat.le_trans Z31 Kc32.1
          have N32 := Fr.app N2 N32q
          refine OGo.st (fun _ k => st32.trans k) ?_
          show OGo p e below s _ _ _ (T32.setTop (mkF m 97 #[.val (.long q0), .second, .val (.long q1), .second, .val (.int p2), .val (.int p3), .val (.int p4), .val (.int (f1 (1 : Int32) (p2 &&& (2147483647 : Int32)))), .val (.int j32_0), .val (.long j46_0), .second, .val (.ref w_LINED), .val (.ref w_SCATTERED), .unset, .unset, .unset, .unset, .unset] [(.ref b31)]))
          refine OGo.st (fun _ k => XS.astore X32.here hx rfl (hb hby at_97) rfl rfl (l' := #[.val (.long q0), .second, .val (.long q1), .second, .val (.int p2), .val (.int p3), .val (.int p4), .val (.int (f1 (1 : Int32) (p2 &&& (2147483647 : Int32)))), .val (.int j32_0), .val (.long j46_0), .second, .val (.ref w_LINED), .val (.ref w_SCATTERED), .val (.ref b31), .unset, .unset, .unset, .unset]) rfl k) ?_
          show OGo p e below s _ _ _ (T32.setTop (mkF m 99 #[.val (.long q0), .second, .val (.long q1), .second, .val (.int p2), .val (.int p3), .val (.int p4), .val (.int (f1 (1 : Int32) (p2 &&& (2147483647 : Int32)))), .val (.int j32_0), .val (.long j46_0), .second, .val (.ref w_LINED), .val (.ref w_SCATTERED), .val (.ref b31), .unset, .unset, .unset, .unset] []))
          obtain ⟨T33, h33, X33, e33, E33, A33, D33, U33, st33⟩ := newO X32 hx hZ hown (hw _ (List.mem_of_getElem? (i := 8) rfl)) (hw _ (List.mem_of_getElem? (i := 9) rfl)) (hw _ (List.mem_of_getElem? (i := 10) rfl)) rfl (g := (mkF m 99 #[.val (.long q0), .second, .val (.long q1), .second, .val (.int p2), .val (.int p3), .val (.int p4), .val (.int (f1 (1 : Int32) (p2 &&& (2147483647 : Int32)))), .val (.int j32_0), .val (.long j46_0), .second, .val (.ref w_LINED), .val (.ref w_SCATTERED), .val (.ref b31), .unset, .unset, .unset, .unset] [])) rfl (hb hby at_99) (by decide) (by decide)
          obtain ⟨b33, g33⟩ : ∃ z, z = T32.heap.size := ⟨_, rfl⟩
          rw [← g33] at A33 D33 U33 st33
          refine OGo.st st33 ?_
          have S_LINED_w33 := S_LINED_w32.ext E33
          have S_SCATTERED_w33 := S_SCATTERED_w32.ext E33
          have E_LINED_w33 := E_LINED_w32.ext E33
          have ne_w_LINED_b33 : w_LINED ≠ b33 := Nat.ne_of_lt (Nat.lt_of_lt_of_le E_LINED_w32.lt (Nat.le_of_eq g33.symm))
          have E_SCATTERED_w33 := E_SCATTERED_w32.ext E33
          have ne_w_SCATTERED_b33 : w_SCATTERED ≠ b33 := Nat.ne_of_lt (Nat.lt_of_lt_of_le E_SCATTERED_w32.lt (Nat.le_of_eq g33.symm))
          have O_LINED_lineShift_w33 := O_LINED_lineShift_w32.ext E33
          have O_LINED_ordinal_w33 := O_LINED_ordinal_w32.ext E33
          have O_SCATTERED_lineShift_w33 := O_SCATTERED_lineShift_w32.ext E33
          have O_SCATTERED_ordinal_w33 := O_SCATTERED_ordinal_w32.ext E33
          have S_C_w33 := S_C_w32.ext E33
          have A31_w33 := A31_w32.ext E33
          have ne_b31_b33 : b31 ≠ b33 := Nat.ne_of_lt (Nat.lt_of_lt_of_le A31_w32.lt (Nat.le_of_eq g33.symm))
          have G32_0_w33 := G32_0.ext E33
          have G32_1_w33 := G32_1.ext E33
          have G32_2_w33 := G32_2.ext E33
          have g_b33 : n0 ≤ b33 := Nat.le_trans Z32 (Nat.le_of_eq g33.symm)
          have sz_b33 : h0.size ≤ b33 := Nat.le_trans (K32).1 (Nat.le_of_eq g33.symm)
          have K33 : Keep h0 h33 [] := (K32).ext E33
          have Z33 : n0 ≤ h33.size := Nat.le_trans Z32 E33.1
          have F_bitCount_b33 : Fld Z h33 b33 "com/example/hazy_set/hazyset/BloomShape" "bitCount" "J" (.long (0 : Int64)) := D33 (Or.inr (hw _ (List.mem_of_getElem? (i := 18) rfl))) (ty := .long) (by decide)
          have F_hashCount_b33 : Fld Z h33 b33 "com/example/hazy_set/hazyset/BloomShape" "hashCount" "I" (.int (0 : Int32)) := D33 (Or.inr (hw _ (List.mem_of_getElem? (i := 20) rfl))) (ty := .int) (by decide)
          have F_layout_b33 : Fld Z h33 b33 "com/example/hazy_set/hazyset/BloomShape" "layout" "Lcom/example/hazy_set/hazyset/BloomShape$Layout;" .null := D33 (Or.inr (hw _ (List.mem_of_getElem? (i := 22) rfl))) (ty := (.object "com/example/hazy_set/hazyset/BloomShape$Layout")) (by decide)
          have F_lineCount_b33 : Fld Z h33 b33 "com/example/hazy_set/hazyset/BloomShape" "lineCount" "J" (.long (0 : Int64)) := D33 (Or.inr (hw _ (List.mem_of_getElem? (i := 26) rfl))) (ty := .long) (by decide)
          have F_linesPerElement_b33 : Fld Z h33 b33 "com/example/hazy_set/hazyset/BloomShape" "linesPerElement" "I" (.int (0 : Int32)) := D33 (Or.inr (hw _ (List.mem_of_getElem? (i := 41) rfl))) (ty := .int) (by decide)
          have F_bitsPerLine_b33 : Fld Z h33 b33 "com/example/hazy_set/hazyset/BloomShape" "bitsPerLine" "I" (.int (0 : Int32)) := D33 (Or.inr (hw _ (List.mem_of_getElem? (i := 43) rfl))) (ty := .int) (by decide)
          have F_longerLines_b33 : Fld Z h33 b33 "com/example/hazy_set/hazyset/BloomShape" "longerLines" "I" (.int (0 : Int32)) := D33 (Or.inr (hw _ (List.mem_of_getElem? (i := 45) rfl))) (ty := .int) (by decide)
          show OGo p e below s _ _ _ (T33.setTop (mkF m 102 #[.val (.long q0), .second, .val (.long q1), .second, .val (.int p2), .val (.int p3), .val (.int p4), .val (.int (f1 (1 : Int32) (p2 &&& (2147483647 : Int32)))), .val (.int j32_0), .val (.long j46_0), .second, .val (.ref w_LINED), .val (.ref w_SCATTERED), .val (.ref b31), .unset, .unset, .unset, .unset] [(.ref b33)]))
          refine OGo.st (fun _ k => XS.dup X33.here hx rfl (hb hby at_102) rfl rfl k) ?_
          show OGo p e below s _ _ _ (T33.setTop (mkF m 103 #[.val (.long q0), .second, .val (.long q1), .second, .val (.int p2), .val (.int p3), .val (.int p4), .val (.int (f1 (1 : Int32) (p2 &&& (2147483647 : Int32)))), .val (.int j32_0), .val (.long j46_0), .second, .val (.ref w_LINED), .val (.ref w_SCATTERED), .val (.ref b31), .unset, .unset, .unset, .unset] [(.ref b33), (.ref b33)]))
          refine OGo.st (fun _ k => XS.lload X33.here hx rfl (hb hby at_103) rfl k) ?_
          show OGo p e below s _ _ _ (T33.setTop (mkF m 105 #[.val (.long q0), .second, .val (.long q1), .second, .val (.int p2), .val (.int p3), .val (.int p4), .val (.int (f1 (1 : Int32) (p2 &&& (2147483647 : Int32)))), .val (.int j32_0), .val (.long j46_0), .second, .val (.ref w_LINED), .val (.ref w_SCATTERED), .val (.ref b31), .unset, .unset, .unset, .unset] [(.long j46_0), (.ref b33), (.ref b33)]))
          refine OGo.st (fun _ k => XS.iload X33.here hx rfl (hb hby at_105) rfl k) ?_
          show OGo p e below s _ _ _ (T33.setTop (mkF m 107 #[.val (.long q0), .second, .val (.long q1), .second, .val (.int p2), .val (.int p3), .val (.int p4), .val (.int (f1 (1 : Int32) (p2 &&& (2147483647 : Int32)))), .val (.int j32_0), .val (.long j46_0), .second, .val (.ref w_LINED), .val (.ref w_SCATTERED), .val (.ref b31), .unset, .unset, .unset, .unset] [(.int j32_0), (.long j46_0), (.ref b33), (.ref b33)]))
          refine OGo.st (fun _ k => XS.aload X33.here hx rfl (hb hby at_107) rfl rfl k) ?_
          show OGo p e below s _ _ _ (T33.setTop (mkF m 109 #[.val (.long q0), .second, .val (.long q1), .second, .val (.int p2), .val (.int p3), .val (.int p4), .val (.int (f1 (1 : Int32) (p2 &&& (2147483647 : Int32)))), .val (.int j32_0), .val (.long j46_0), .second, .val (.ref w_LINED), .val (.ref w_SCATTERED), .val (.ref b31), .unset, .unset, .unset, .unset] [(.ref w_SCATTERED), (.int j32_0), (.long j46_0), (.ref b33), (.ref b33)]))
          obtain ⟨_, _, ⟨T34, L34, k34, n34⟩, -, X34, ⟨Lc34, hQ34, l34, y34, z34⟩, st34⟩ := X33.specialBack hx (y := (⟨"com/example/hazy_set/hazyset/BloomShape", "<init>", "(JILcom/example/hazy_set/hazyset/BloomShape$Layout;)V"⟩ : MethodName)) rfl hown (mvT hZ (hw _ (List.mem_of_getElem? (i := 11) rfl))) (mvT hZ (hw _ (List.mem_of_getElem? (i := 12) rfl))) (mvT hZ (hw _ (List.mem_of_getElem? (i := 13) rfl))) (by decide) (backOf (W := 1) (rm2S l Z a0 hw [] b33 j46_0 j32_0 w_SCATTERED h33 n0 Z33 A33 F_bitCount_b33 F_hashCount_b33 F_layout_b33 F_lineCount_b33 F_linesPerElement_b33 F_bitsPerLine_b33 F_longerLines_b33 E_SCATTERED_w33 O_SCATTERED_lineShift_w33 O_SCATTERED_ordinal_w33 g_b33 ne_w_SCATTERED_b33 hk2) hZ (hw _ (List.mem_of_getElem? (i := 13) rfl)) (hw _ (List.mem_of_getElem? (i := 10) rfl)) (by decide) (by decide)) (g := (mkF m 109 #[.val (.long q0), .second, .val (.long q1), .second, .val (.int p2), .val (.int p3), .val (.int p4), .val (.int (f1 (1 : Int32) (p2 &&& (2147483647 : Int32)))), .val (.int j32_0), .val (.long j46_0), .second, .val (.ref w_LINED), .val (.ref w_SCATTERED), .val (.ref b31), .unset, .unset, .unset, .unset] [(.ref w_SCATTERED), (.int j32_0), (.long j46_0), (.ref b33), (.ref b33)])) rfl (by rw [hml]; rfl) (Steps.refl _) (a := b33) (argsL := [(.long j46_0), (.int j32_0), (.ref w_SCATTERED)]) (rest := [(.ref b33)]) (lenOf pd_0_1 rfl) rfl (by show 2 * 0 + _ ≤ _; exact Nat.le_of_eq rfl) (hb hby at_109) (fun _ _ => ⟨rfl, e33, (by decide : 2 + 0 ≤ _), (by decide : 14 + 0 ≤ _)⟩)
          dsimp only [Pt.U, Pt.locs, Pt.cells, Pt.slots] at X34 l34 y34 z34 st34 hQ34
          subst l34 y34 z34
          obtain ⟨rfl, N34q, Kc34, G34_0, G34_1, G34_2⟩ := hQ34
          have S_LINED_w34 := osta_keep S_LINED_w33 Kc34 (osta_exa A33 (fun _ _ _ _ => nin0))
          have S_SCATTERED_w34 := osta_keep S_SCATTERED_w33 Kc34 (osta_exa A33 (fun _ _ _ _ => nin0))
          have E_LINED_w34 := E_LINED_w33.keep Kc34
          have E_SCATTERED_w34 := E_SCATTERED_w33.keep Kc34
          have O_LINED_lineShift_w34 := O_LINED_lineShift_w33.keep Kc34 (ninS ne_w_LINED_b33 nin0)
          have O_LINED_ordinal_w34 := O_LINED_ordinal_w33.keep Kc34 (ninS ne_w_LINED_b33 nin0)
          have O_SCATTERED_lineShift_w34 := O_SCATTERED_lineShift_w33.keep Kc34 (ninS ne_w_SCATTERED_b33 nin0)
          have O_SCATTERED_ordinal_w34 := O_SCATTERED_ordinal_w33.keep Kc34 (ninS ne_w_SCATTERED_b33 nin0)
          have S_C_w34 := osta_keep S_C_w33 Kc34 (osta_exa A33 (fun _ _ _ _ => nin0))
          have A31_w34 := A31_w33.keep Kc34
          have G32_0_w34 := G32_0_w33.keep Kc34 (ninS ne_b31_b33 nin0)
          have G32_1_w34 := G32_1_w33.keep Kc34 (ninS ne_b31_b33 nin0)
          have G32_2_w34 := G32_2_w33.keep Kc34 (ninS ne_b31_b33 nin0)
          have A33_w34 := A33.keep Kc34
          have K34 : Keep h0 T34.heap [] := (K33).trans Kc34 (allS (Or.inr sz_b33) all0)
          have Z34 : n0 ≤ T34.heap.size := Nat.le_trans Z33 Kc34.1
          have N34 := Fr.app N32 N34q
          refine OGo.st (fun _ k => st34.trans k) ?_
          show OGo p e below s _ _ _ (T34.setTop (mkF m 112 #[.val (.long q0), .second, .val (.long q1), .second, .val (.int p2), .val (.int p3), .val (.int p4), .val (.int (f1 (1 : Int32) (p2 &&& (2147483647 : Int32)))), .val (.int j32_0), .val (.long j46_0), .second, .val (.ref w_LINED), .val (.ref w_SCATTERED), .val (.ref b31), .unset, .unset, .unset, .unset] [(.ref b33)]))
          refine OGo.st (fun _ k => XS.astore X34.here hx rfl (hb hby at_112) rfl rfl (l' := #[.val (.long q0), .second, .val (.long q1), .second, .val (.int p2), .val (.int p3), .val (.int p4), .val (.int (f1 (1 : Int32) (p2 &&& (2147483647 : Int32)))), .val (.int j32_0), .val (.long j46_0), .second, .val (.ref w_LINED), .val (.ref w_SCATTERED), .val (.ref b31), .val (.ref b33), .unset, .unset, .unset]) rfl k) ?_
          show OGo p e below s _ _ _ (T34.setTop (mkF m 114 #[.val (.long q0), .second, .val (.long q1), .second, .val (.int p2), .val (.int p3), .val (.int p4), .val (.int (f1 (1 : Int32) (p2 &&& (2147483647 : Int32)))), .val (.int j32_0), .val (.long j46_0), .second, .val (.ref w_LINED), .val (.ref w_SCATTERED), .val (.ref b31), .val (.ref b33), .unset, .unset, .unset] []))
          refine OGo.st (fun _ k => XS.iload X34.here hx rfl (hb hby at_114) rfl k) ?_
          show OGo p e below s _ _ _ (T34.setTop (mkF m 116 #[.val (.long q0), .second, .val (.long q1), .second, .val (.int p2), .val (.int p3), .val (.int p4), .val (.int (f1 (1 : Int32) (p2 &&& (2147483647 : Int32)))), .val (.int j32_0), .val (.long j46_0), .second, .val (.ref w_LINED), .val (.ref w_SCATTERED), .val (.ref b31), .val (.ref b33), .unset, .unset, .unset] [(.int p4)]))
          refine OGo.st (fun _ k => XS.iconst X34.here hx rfl (hb hby at_116) k) ?_
          show OGo p e below s _ _ _ (T34.setTop (mkF m 117 #[.val (.long q0), .second, .val (.long q1), .second, .val (.int p2), .val (.int p3), .val (.int p4), .val (.int (f1 (1 : Int32) (p2 &&& (2147483647 : Int32)))), .val (.int j32_0), .val (.long j46_0), .second, .val (.ref w_LINED), .val (.ref w_SCATTERED), .val (.ref b31), .val (.ref b33), .unset, .unset, .unset] [(.int (4 : Int32)), (.int p4)]))
          refine OGo.st (fun _ k => XS.iushr X34.here hx rfl (hb hby at_117) rfl k) ?_
          show OGo p e below s _ _ _ (T34.setTop (mkF m 118 #[.val (.long q0), .second, .val (.long q1), .second, .val (.int p2), .val (.int p3), .val (.int p4), .val (.int (f1 (1 : Int32) (p2 &&& (2147483647 : Int32)))), .val (.int j32_0), .val (.long j46_0), .second, .val (.ref w_LINED), .val (.ref w_SCATTERED), .val (.ref b31), .val (.ref b33), .unset, .unset, .unset] [(.int ((p4.toUInt32 >>> ((4 : Int32) &&& 31).toUInt32).toInt32))]))
          refine OGo.st (fun _ k => XS.iconst X34.here hx rfl (hb hby at_118) k) ?_
          show OGo p e below s _ _ _ (T34.setTop (mkF m 119 #[.val (.long q0), .second, .val (.long q1), .second, .val (.int p2), .val (.int p3), .val (.int p4), .val (.int (f1 (1 : Int32) (p2 &&& (2147483647 : Int32)))), .val (.int j32_0), .val (.long j46_0), .second, .val (.ref w_LINED), .val (.ref w_SCATTERED), .val (.ref b31), .val (.ref b33), .unset, .unset, .unset] [(.int (3 : Int32)), (.int ((p4.toUInt32 >>> ((4 : Int32) &&& 31).toUInt32).toInt32))]))
          refine OGo.st (fun _ k => XS.iand X34.here hx rfl (hb hby at_119) rfl k) ?_
          show OGo p e below s _ _ _ (T34.setTop (mkF m 120 #[.val (.long q0), .second, .val (.long q1), .second, .val (.int p2), .val (.int p3), .val (.int p4), .val (.int (f1 (1 : Int32) (p2 &&& (2147483647 : Int32)))), .val (.int j32_0), .val (.long j46_0), .second, .val (.ref w_LINED), .val (.ref w_SCATTERED), .val (.ref b31), .val (.ref b33), .unset, .unset, .unset] [(.int (((p4.toUInt32 >>> ((4 : Int32) &&& 31).toUInt32).toInt32) &&& (3 : Int32)))]))
          refine OGo.st (fun _ k => XS.istore X34.here hx rfl (hb hby at_120) rfl (l' := #[.val (.long q0), .second, .val (.long q1), .second, .val (.int p2), .val (.int p3), .val (.int p4), .val (.int (f1 (1 : Int32) (p2 &&& (2147483647 : Int32)))), .val (.int j32_0), .val (.long j46_0), .second, .val (.ref w_LINED), .val (.ref w_SCATTERED), .val (.ref b31), .val (.ref b33), .val (.int (v0_0 q0 q1 p2 p3 p4 w_LINED w_SCATTERED w_C c_C j32_0 j46_0)), .unset, .unset]) rfl k) ?_
          show OGo p e below s _ _ _ (T34.setTop (mkF m 122 #[.val (.long q0), .second, .val (.long q1), .second, .val (.int p2), .val (.int p3), .val (.int p4), .val (.int (f1 (1 : Int32) (p2 &&& (2147483647 : Int32)))), .val (.int j32_0), .val (.long j46_0), .second, .val (.ref w_LINED), .val (.ref w_SCATTERED), .val (.ref b31), .val (.ref b33), .val (.int (v0_0 q0 q1 p2 p3 p4 w_LINED w_SCATTERED w_C c_C j32_0 j46_0)), .unset, .unset] []))
          refine OGo.st (fun _ k => XS.iload X34.here hx rfl (hb hby at_122) rfl k) ?_
          show OGo p e below s _ _ _ (T34.setTop (mkF m 124 #[.val (.long q0), .second, .val (.long q1), .second, .val (.int p2), .val (.int p3), .val (.int p4), .val (.int (f1 (1 : Int32) (p2 &&& (2147483647 : Int32)))), .val (.int j32_0), .val (.long j46_0), .second, .val (.ref w_LINED), .val (.ref w_SCATTERED), .val (.ref b31), .val (.ref b33), .val (.int (v0_0 q0 q1 p2 p3 p4 w_LINED w_SCATTERED w_C c_C j32_0 j46_0)), .unset, .unset] [(.int (v0_0 q0 q1 p2 p3 p4 w_LINED w_SCATTERED w_C c_C j32_0 j46_0))]))
          by_cases hc124 : (v0_0 q0 q1 p2 p3 p4 w_LINED w_SCATTERED w_C c_C j32_0 j46_0) = (0 : Int32)
          · refine OGo.st (fun _ k => XS.ifNo X34.here hx rfl (hb hby at_124) rfl ((if0 _ _).trans (teq hc124).2) k) ?_
            show OGo p e below s _ _ _ (T34.setTop (mkF m 127 #[.val (.long q0), .second, .val (.long q1), .second, .val (.int p2), .val (.int p3), .val (.int p4), .val (.int (f1 (1 : Int32) (p2 &&& (2147483647 : Int32)))), .val (.int j32_0), .val (.long j46_0), .second, .val (.ref w_LINED), .val (.ref w_SCATTERED), .val (.ref b31), .val (.ref b33), .val (.int (v0_0 q0 q1 p2 p3 p4 w_LINED w_SCATTERED w_C c_C j32_0 j46_0)), .unset, .unset] []))
            refine OGo.st (fun _ k => XS.aload X34.here hx rfl (hb hby at_127) rfl rfl k) ?_
            show OGo p e below s _ _ _ (T34.setTop (mkF m 129 #[.val (.long q0), .second, .val (.long q1), .second, .val (.int p2), .val (.int p3), .val (.int p4), .val (.int (f1 (1 : Int32) (p2 &&& (2147483647 : Int32)))), .val (.int j32_0), .val (.long j46_0), .second, .val (.ref w_LINED), .val (.ref w_SCATTERED), .val (.ref b31), .val (.ref b33), .val (.int (v0_0 q0 q1 p2 p3 p4 w_LINED w_SCATTERED w_C c_C j32_0 j46_0)), .unset, .unset] [(.ref b33)]))
            refine OGo.st (fun _ k => XS.astore X34.here hx rfl (hb hby at_129) rfl rfl (l' := #[.val (.long q0), .second, .val (.long q1), .second, .val (.int p2), .val (.int p3), .val (.int p4), .val (.int (f1 (1 : Int32) (p2 &&& (2147483647 : Int32)))), .val (.int j32_0), .val (.long j46_0), .second, .val (.ref w_LINED), .val (.ref w_SCATTERED), .val (.ref b31), .val (.ref b33), .val (.int (v0_0 q0 q1 p2 p3 p4 w_LINED w_SCATTERED w_C c_C j32_0 j46_0)), .val (.ref b33), .unset]) rfl k) ?_
            show OGo p e below s _ _ _ (T34.setTop (mkF m 131 #[.val (.long q0), .second, .val (.long q1), .second, .val (.int p2), .val (.int p3), .val (.int p4), .val (.int (f1 (1 : Int32) (p2 &&& (2147483647 : Int32)))), .val (.int j32_0), .val (.long j46_0), .second, .val (.ref w_LINED), .val (.ref w_SCATTERED), .val (.ref b31), .val (.ref b33), .val (.int (v0_0 q0 q1 p2 p3 p4 w_LINED w_SCATTERED w_C c_C j32_0 j46_0)), .val (.ref b33), .unset] []))
            refine OGo.st (fun _ k => XS.lloadN X34.here hx rfl (hb hby at_131) rfl k) ?_
            show OGo p e below s _ _ _ (T34.setTop (mkF m 132 #[.val (.long q0), .second, .val (.long q1), .second, .val (.int p2), .val (.int p3), .val (.int p4), .val (.int (f1 (1 : Int32) (p2 &&& (2147483647 : Int32)))), .val (.int j32_0), .val (.long j46_0), .second, .val (.ref w_LINED), .val (.ref w_SCATTERED), .val (.ref b31), .val (.ref b33), .val (.int (v0_0 q0 q1 p2 p3 p4 w_LINED w_SCATTERED w_C c_C j32_0 j46_0)), .val (.ref b33), .unset] [(.long q0)]))
            refine OGo.st (fun _ k => XS.lload X34.here hx rfl (hb hby at_132) rfl k) ?_
            show OGo p e below s _ _ _ (T34.setTop (mkF m 134 #[.val (.long q0), .second, .val (.long q1), .second, .val (.int p2), .val (.int p3), .val (.int p4), .val (.int (f1 (1 : Int32) (p2 &&& (2147483647 : Int32)))), .val (.int j32_0), .val (.long j46_0), .second, .val (.ref w_LINED), .val (.ref w_SCATTERED), .val (.ref b31), .val (.ref b33), .val (.int (v0_0 q0 q1 p2 p3 p4 w_LINED w_SCATTERED w_C c_C j32_0 j46_0)), .val (.ref b33), .unset] [(.long j46_0), (.long q0)]))
            refine OGo.st (fun _ k => XS.lcmp X34.here hx rfl (hb hby at_134) rfl k) ?_
            show OGo p e below s _ _ _ (T34.setTop (mkF m 135 #[.val (.long q0), .second, .val (.long q1), .second, .val (.int p2), .val (.int p3), .val (.int p4), .val (.int (f1 (1 : Int32) (p2 &&& (2147483647 : Int32)))), .val (.int j32_0), .val (.long j46_0), .second, .val (.ref w_LINED), .val (.ref w_SCATTERED), .val (.ref b31), .val (.ref b33), .val (.int (v0_0 q0 q1 p2 p3 p4 w_LINED w_SCATTERED w_C c_C j32_0 j46_0)), .val (.ref b33), .unset] [(.int (lcmpW q0 j46_0))]))
            by_cases hc135 : q0 = j46_0
            · refine OGo.st (fun _ k => XS.ifNo X34.here hx rfl (hb hby at_135) rfl ((if0 _ _).trans (teq ((olc_eq _ _).mpr hc135)).2) k) ?_
              show OGo p e below s _ _ _ (T34.setTop (mkF m 138 #[.val (.long q0), .second, .val (.long q1), .second, .val (.int p2), .val (.int p3), .val (.int p4), .val (.int (f1 (1 : Int32) (p2 &&& (2147483647 : Int32)))), .val (.int j32_0), .val (.long j46_0), .second, .val (.ref w_LINED), .val (.ref w_SCATTERED), .val (.ref b31), .val (.ref b33), .val (.int (v0_0 q0 q1 p2 p3 p4 w_LINED w_SCATTERED w_C c_C j32_0 j46_0)), .val (.ref b33), .unset] []))
              refine OGo.st (fun _ k => XS.iload X34.here hx rfl (hb hby at_138) rfl k) ?_
              show OGo p e below s _ _ _ (T34.setTop (mkF m 140 #[.val (.long q0), .second, .val (.long q1), .second, .val (.int p2), .val (.int p3), .val (.int p4), .val (.int (f1 (1 : Int32) (p2 &&& (2147483647 : Int32)))), .val (.int j32_0), .val (.long j46_0), .second, .val (.ref w_LINED), .val (.ref w_SCATTERED), .val (.ref b31), .val (.ref b33), .val (.int (v0_0 q0 q1 p2 p3 p4 w_LINED w_SCATTERED w_C c_C j32_0 j46_0)), .val (.ref b33), .unset] [(.int (f1 (1 : Int32) (p2 &&& (2147483647 : Int32))))]))
              refine OGo.st (fun _ k => XS.iload X34.here hx rfl (hb hby at_140) rfl k) ?_
              show OGo p e below s _ _ _ (T34.setTop (mkF m 142 #[.val (.long q0), .second, .val (.long q1), .second, .val (.int p2), .val (.int p3), .val (.int p4), .val (.int (f1 (1 : Int32) (p2 &&& (2147483647 : Int32)))), .val (.int j32_0), .val (.long j46_0), .second, .val (.ref w_LINED), .val (.ref w_SCATTERED), .val (.ref b31), .val (.ref b33), .val (.int (v0_0 q0 q1 p2 p3 p4 w_LINED w_SCATTERED w_C c_C j32_0 j46_0)), .val (.ref b33), .unset] [(.int j32_0), (.int (f1 (1 : Int32) (p2 &&& (2147483647 : Int32))))]))
              by_cases hc142 : (f1 (1 : Int32) (p2 &&& (2147483647 : Int32))) = j32_0
              · refine OGo.st (fun _ k => XS.icmpNo X34.here hx rfl (hb hby at_142) rfl (teq hc142).2 k) ?_
                show OGo p e below s _ _ _ (T34.setTop (mkF m 145 #[.val (.long q0), .second, .val (.long q1), .second, .val (.int p2), .val (.int p3), .val (.int p4), .val (.int (f1 (1 : Int32) (p2 &&& (2147483647 : Int32)))), .val (.int j32_0), .val (.long j46_0), .second, .val (.ref w_LINED), .val (.ref w_SCATTERED), .val (.ref b31), .val (.ref b33), .val (.int (v0_0 q0 q1 p2 p3 p4 w_LINED w_SCATTERED w_C c_C j32_0 j46_0)), .val (.ref b33), .unset] []))
                refine OGo.st (fun _ k => XS.aload X34.here hx rfl (hb hby at_145) rfl rfl k) ?_
                show OGo p e below s _ _ _ (T34.setTop (mkF m 147 #[.val (.long q0), .second, .val (.long q1), .second, .val (.int p2), .val (.int p3), .val (.int p4), .val (.int (f1 (1 : Int32) (p2 &&& (2147483647 : Int32)))), .val (.int j32_0), .val (.long j46_0), .second, .val (.ref w_LINED), .val (.ref w_SCATTERED), .val (.ref b31), .val (.ref b33), .val (.int (v0_0 q0 q1 p2 p3 p4 w_LINED w_SCATTERED w_C c_C j32_0 j46_0)), .val (.ref b33), .unset] [(.ref w_LINED)]))
                refine OGo.st (fun _ k => XS.aload X34.here hx rfl (hb hby at_147) rfl rfl k) ?_
                show OGo p e below s _ _ _ (T34.setTop (mkF m 149 #[.val (.long q0), .second, .val (.long q1), .second, .val (.int p2), .val (.int p3), .val (.int p4), .val (.int (f1 (1 : Int32) (p2 &&& (2147483647 : Int32)))), .val (.int j32_0), .val (.long j46_0), .second, .val (.ref w_LINED), .val (.ref w_SCATTERED), .val (.ref b31), .val (.ref b33), .val (.int (v0_0 q0 q1 p2 p3 p4 w_LINED w_SCATTERED w_C c_C j32_0 j46_0)), .val (.ref b33), .unset] [(.ref w_SCATTERED), (.ref w_LINED)]))
                refine OGo.st (fun _ k => Jvm.RoadKit.acmp (g := (mkF m 149 #[.val (.long q0), .second, .val (.long q1), .second, .val (.int p2), .val (.int p3), .val (.int p4), .val (.int (f1 (1 : Int32) (p2 &&& (2147483647 : Int32)))), .val (.int j32_0), .val (.long j46_0), .second, .val (.ref w_LINED), .val (.ref w_SCATTERED), .val (.ref b31), .val (.ref b33), .val (.int (v0_0 q0 q1 p2 p3 p4 w_LINED w_SCATTERED w_C c_C j32_0 j46_0)), .val (.ref b33), .unset] [(.ref w_SCATTERED), (.ref w_LINED)])) X34 hx rfl rfl rfl (pc0 := 149) (pc' := 156) (same := false) rfl (hb hby at_149) rfl (decide_eq_false fun q => ne_LS (Value.ref.inj q)) (by decide) (by decide) k) ?_
                show OGo p e below s _ _ _ (T34.setTop (mkF m 156 #[.val (.long q0), .second, .val (.long q1), .second, .val (.int p2), .val (.int p3), .val (.int p4), .val (.int (f1 (1 : Int32) (p2 &&& (2147483647 : Int32)))), .val (.int j32_0), .val (.long j46_0), .second, .val (.ref w_LINED), .val (.ref w_SCATTERED), .val (.ref b31), .val (.ref b33), .val (.int (v0_0 q0 q1 p2 p3 p4 w_LINED w_SCATTERED w_C c_C j32_0 j46_0)), .val (.ref b33), .unset] []))
                refine OGo.st (fun _ k => XS.iconst X34.here hx rfl (hb hby at_156) k) ?_
                show OGo p e below s _ _ _ (T34.setTop (mkF m 157 #[.val (.long q0), .second, .val (.long q1), .second, .val (.int p2), .val (.int p3), .val (.int p4), .val (.int (f1 (1 : Int32) (p2 &&& (2147483647 : Int32)))), .val (.int j32_0), .val (.long j46_0), .second, .val (.ref w_LINED), .val (.ref w_SCATTERED), .val (.ref b31), .val (.ref b33), .val (.int (v0_0 q0 q1 p2 p3 p4 w_LINED w_SCATTERED w_C c_C j32_0 j46_0)), .val (.ref b33), .unset] [(.int (0 : Int32))]))
                refine OGo.st (fun _ k => XS.istore X34.here hx rfl (hb hby at_157) rfl (l' := #[.val (.long q0), .second, .val (.long q1), .second, .val (.int p2), .val (.int p3), .val (.int p4), .val (.int (f1 (1 : Int32) (p2 &&& (2147483647 : Int32)))), .val (.int j32_0), .val (.long j46_0), .second, .val (.ref w_LINED), .val (.ref w_SCATTERED), .val (.ref b31), .val (.ref b33), .val (.int (v0_0 q0 q1 p2 p3 p4 w_LINED w_SCATTERED w_C c_C j32_0 j46_0)), .val (.ref b33), .val (.int (0 : Int32))]) rfl k) ?_
                show OGo p e below s _ _ _ (T34.setTop (mkF m 159 #[.val (.long q0), .second, .val (.long q1), .second, .val (.int p2), .val (.int p3), .val (.int p4), .val (.int (f1 (1 : Int32) (p2 &&& (2147483647 : Int32)))), .val (.int j32_0), .val (.long j46_0), .second, .val (.ref w_LINED), .val (.ref w_SCATTERED), .val (.ref b31), .val (.ref b33), .val (.int (v0_0 q0 q1 p2 p3 p4 w_LINED w_SCATTERED w_C c_C j32_0 j46_0)), .val (.ref b33), .val (.int (0 : Int32))] []))
                refine OGo.st (fun _ k => XS.goto X34.here hx rfl (pc0 := 159) (pc' := 202) rfl (hb hby at_159) (by decide) (by decide) k) ?_
                show OGo p e below s _ _ _ (T34.setTop (mkF m 202 #[.val (.long q0), .second, .val (.long q1), .second, .val (.int p2), .val (.int p3), .val (.int p4), .val (.int (f1 (1 : Int32) (p2 &&& (2147483647 : Int32)))), .val (.int j32_0), .val (.long j46_0), .second, .val (.ref w_LINED), .val (.ref w_SCATTERED), .val (.ref b31), .val (.ref b33), .val (.int (v0_0 q0 q1 p2 p3 p4 w_LINED w_SCATTERED w_C c_C j32_0 j46_0)), .val (.ref b33), .val (.int (0 : Int32))] []))
                refine OGo.st (fun _ k => XS.aload X34.here hx rfl (hb hby at_202) rfl rfl k) ?_
                show OGo p e below s _ _ _ (T34.setTop (mkF m 204 #[.val (.long q0), .second, .val (.long q1), .second, .val (.int p2), .val (.int p3), .val (.int p4), .val (.int (f1 (1 : Int32) (p2 &&& (2147483647 : Int32)))), .val (.int j32_0), .val (.long j46_0), .second, .val (.ref w_LINED), .val (.ref w_SCATTERED), .val (.ref b31), .val (.ref b33), .val (.int (v0_0 q0 q1 p2 p3 p4 w_LINED w_SCATTERED w_C c_C j32_0 j46_0)), .val (.ref b33), .val (.int (0 : Int32))] [(.ref b31)]))
                refine OGo.st (fun _ k => XS.aload X34.here hx rfl (hb hby at_204) rfl rfl k) ?_
                show OGo p e below s _ _ _ (T34.setTop (mkF m 206 #[.val (.long q0), .second, .val (.long q1), .second, .val (.int p2), .val (.int p3), .val (.int p4), .val (.int (f1 (1 : Int32) (p2 &&& (2147483647 : Int32)))), .val (.int j32_0), .val (.long j46_0), .second, .val (.ref w_LINED), .val (.ref w_SCATTERED), .val (.ref b31), .val (.ref b33), .val (.int (v0_0 q0 q1 p2 p3 p4 w_LINED w_SCATTERED w_C c_C j32_0 j46_0)), .val (.ref b33), .val (.int (0 : Int32))] [(.ref b33), (.ref b31)]))
                obtain ⟨cq35, kq35, q35a, q35b, q35c⟩ := isOf hZ rfl A31_w34
                obtain ⟨_, _, ⟨T35, L35, k35, n35⟩, -, X35, ⟨Lc35, hQ35, l35, y35, z35⟩, st35⟩ := X34.virtualBack hx (y := (⟨"com/example/hazy_set/hazyset/BloomShape", "equals", "(Ljava/lang/Object;)Z"⟩ : MethodName)) (z := (⟨"com/example/hazy_set/hazyset/BloomShape", "equals", "(Ljava/lang/Object;)Z"⟩ : MethodName)) hown (mvT hZ (hw _ (List.mem_of_getElem? (i := 46) rfl))) (mvT hZ (hw _ (List.mem_of_getElem? (i := 47) rfl))) (notFace_of_selects (args := #[]) (mvT hZ (hw _ (List.mem_of_getElem? (i := 49) rfl)))) (mvT hZ (hw _ (List.mem_of_getElem? (i := 49) rfl))) (mvT hZ (hw _ (List.mem_of_getElem? (i := 48) rfl))) (by decide) (backOf (W := 0) (rm6B l Z a0 hw [] b31 b33 q0 (f1 (1 : Int32) (p2 &&& (2147483647 : Int32))) w_LINED j46_0 j32_0 w_SCATTERED T34.heap n0 Z34 A31_w34 G32_0_w34 G32_1_w34 G32_2_w34 A33_w34 G34_0 G34_1 G34_2) hZ (hw _ (List.mem_of_getElem? (i := 50) rfl)) (hw _ (List.mem_of_getElem? (i := 10) rfl)) (by decide) (by decide)) q35a q35c (g := (mkF m 206 #[.val (.long q0), .second, .val (.long q1), .second, .val (.int p2), .val (.int p3), .val (.int p4), .val (.int (f1 (1 : Int32) (p2 &&& (2147483647 : Int32)))), .val (.int j32_0), .val (.long j46_0), .second, .val (.ref w_LINED), .val (.ref w_SCATTERED), .val (.ref b31), .val (.ref b33), .val (.int (v0_0 q0 q1 p2 p3 p4 w_LINED w_SCATTERED w_C c_C j32_0 j46_0)), .val (.ref b33), .val (.int (0 : Int32))] [(.ref b33), (.ref b31)])) rfl (by rw [hml]; rfl) (Steps.refl _) (argsL := [(.ref b33)]) (rest := []) (lenOf pd_0_2 rfl) rfl (by show 2 * 0 + _ ≤ _; exact Nat.le_of_eq rfl) (hb hby at_206) (fun _ _ => ⟨rfl, rfl, (by decide : 2 + 0 ≤ _), (by decide : 14 + 0 ≤ _)⟩)
                dsimp only [Pt.U, Pt.locs, Pt.cells, Pt.slots] at X35 l35 y35 z35 st35 hQ35
                subst l35 y35 z35
                obtain ⟨rfl, N35q, e35⟩ := hQ35
                have N35 := Fr.app N34 N35q
                refine OGo.st (fun _ k => st35.trans k) ?_
                show OGo p e below s _ _ _ (T35.setTop (mkF m 209 #[.val (.long q0), .second, .val (.long q1), .second, .val (.int p2), .val (.int p3), .val (.int p4), .val (.int (f1 (1 : Int32) (p2 &&& (2147483647 : Int32)))), .val (.int j32_0), .val (.long j46_0), .second, .val (.ref w_LINED), .val (.ref w_SCATTERED), .val (.ref b31), .val (.ref b33), .val (.int (v0_0 q0 q1 p2 p3 p4 w_LINED w_SCATTERED w_C c_C j32_0 j46_0)), .val (.ref b33), .val (.int (0 : Int32))] [(.int (f6B q0 (f1 (1 : Int32) (p2 &&& (2147483647 : Int32))) w_LINED j46_0 j32_0 w_SCATTERED))]))
                refine OGo.st (fun _ k => XS.iload X35.here hx rfl (hb hby at_209) rfl k) ?_
                show OGo p e below s _ _ _ (T35.setTop (mkF m 211 #[.val (.long q0), .second, .val (.long q1), .second, .val (.int p2), .val (.int p3), .val (.int p4), .val (.int (f1 (1 : Int32) (p2 &&& (2147483647 : Int32)))), .val (.int j32_0), .val (.long j46_0), .second, .val (.ref w_LINED), .val (.ref w_SCATTERED), .val (.ref b31), .val (.ref b33), .val (.int (v0_0 q0 q1 p2 p3 p4 w_LINED w_SCATTERED w_C c_C j32_0 j46_0)), .val (.ref b33), .val (.int (0 : Int32))] [(.int (0 : Int32)), (.int (f6B q0 (f1 (1 : Int32) (p2 &&& (2147483647 : Int32))) w_LINED j46_0 j32_0 w_SCATTERED))]))
                by_cases hc211 : (f6B q0 (f1 (1 : Int32) (p2 &&& (2147483647 : Int32))) w_LINED j46_0 j32_0 w_SCATTERED) = (0 : Int32)
                · refine OGo.st (fun _ k => XS.icmpNo X35.here hx rfl (hb hby at_211) rfl (teq hc211).2 k) ?_
                  show OGo p e below s _ _ _ (T35.setTop (mkF m 214 #[.val (.long q0), .second, .val (.long q1), .second, .val (.int p2), .val (.int p3), .val (.int p4), .val (.int (f1 (1 : Int32) (p2 &&& (2147483647 : Int32)))), .val (.int j32_0), .val (.long j46_0), .second, .val (.ref w_LINED), .val (.ref w_SCATTERED), .val (.ref b31), .val (.ref b33), .val (.int (v0_0 q0 q1 p2 p3 p4 w_LINED w_SCATTERED w_C c_C j32_0 j46_0)), .val (.ref b33), .val (.int (0 : Int32))] []))
                  refine OGo.st (fun _ k => XS.iconst X35.here hx rfl (hb hby at_214) k) ?_
                  show OGo p e below s _ _ _ (T35.setTop (mkF m 215 #[.val (.long q0), .second, .val (.long q1), .second, .val (.int p2), .val (.int p3), .val (.int p4), .val (.int (f1 (1 : Int32) (p2 &&& (2147483647 : Int32)))), .val (.int j32_0), .val (.long j46_0), .second, .val (.ref w_LINED), .val (.ref w_SCATTERED), .val (.ref b31), .val (.ref b33), .val (.int (v0_0 q0 q1 p2 p3 p4 w_LINED w_SCATTERED w_C c_C j32_0 j46_0)), .val (.ref b33), .val (.int (0 : Int32))] [(.int (1 : Int32))]))
                  refine OGo.st (fun _ k => XS.goto X35.here hx rfl (pc0 := 215) (pc' := 219) rfl (hb hby at_215) (by decide) (by decide) k) ?_
                  show OGo p e below s _ _ _ (T35.setTop (mkF m 219 #[.val (.long q0), .second, .val (.long q1), .second, .val (.int p2), .val (.int p3), .val (.int p4), .val (.int (f1 (1 : Int32) (p2 &&& (2147483647 : Int32)))), .val (.int j32_0), .val (.long j46_0), .second, .val (.ref w_LINED), .val (.ref w_SCATTERED), .val (.ref b31), .val (.ref b33), .val (.int (v0_0 q0 q1 p2 p3 p4 w_LINED w_SCATTERED w_C c_C j32_0 j46_0)), .val (.ref b33), .val (.int (0 : Int32))] [(.int (1 : Int32))]))
                  exact oretN X35 hx Bd.notSynchronized (t := .boolean) Bd.returns (by simp) (hb hby at_219) (z' := (1 : Int32)) (by decide) e35 ⟨(congrArg (fun z => some (Value.int z)) (show (1 : Int32) = f0 q0 q1 p2 p3 p4 w_LINED w_SCATTERED w_C c_C from Eq.symm (hf46_0.trans (by unfold f0_46; exact (if_neg hc52).trans ((if_pos hc71).trans ((if_pos hc124).trans ((if_pos hc135).trans ((if_pos hc142).trans (if_pos hc211))))))))), N35⟩ (by decide) (by decide)
                · refine OGo.st (fun _ k => XS.icmpYes X35.here hx rfl (pc0 := 211) (pc' := 218) rfl (hb hby at_211) rfl (feq hc211).2 (by decide) (by decide) k) ?_
                  show OGo p e below s _ _ _ (T35.setTop (mkF m 218 #[.val (.long q0), .second, .val (.long q1), .second, .val (.int p2), .val (.int p3), .val (.int p4), .val (.int (f1 (1 : Int32) (p2 &&& (2147483647 : Int32)))), .val (.int j32_0), .val (.long j46_0), .second, .val (.ref w_LINED), .val (.ref w_SCATTERED), .val (.ref b31), .val (.ref b33), .val (.int (v0_0 q0 q1 p2 p3 p4 w_LINED w_SCATTERED w_C c_C j32_0 j46_0)), .val (.ref b33), .val (.int (0 : Int32))] []))
                  refine OGo.st (fun _ k => XS.iconst X35.here hx rfl (hb hby at_218) k) ?_
                  show OGo p e below s _ _ _ (T35.setTop (mkF m 219 #[.val (.long q0), .second, .val (.long q1), .second, .val (.int p2), .val (.int p3), .val (.int p4), .val (.int (f1 (1 : Int32) (p2 &&& (2147483647 : Int32)))), .val (.int j32_0), .val (.long j46_0), .second, .val (.ref w_LINED), .val (.ref w_SCATTERED), .val (.ref b31), .val (.ref b33), .val (.int (v0_0 q0 q1 p2 p3 p4 w_LINED w_SCATTERED w_C c_C j32_0 j46_0)), .val (.ref b33), .val (.int (0 : Int32))] [(.int (0 : Int32))]))
                  exact oretN X35 hx Bd.notSynchronized (t := .boolean) Bd.returns (by simp) (hb hby at_219) (z' := (0 : Int32)) (by decide) e35 ⟨(congrArg (fun z => some (Value.int z)) (show (0 : Int32) = f0 q0 q1 p2 p3 p4 w_LINED w_SCATTERED w_C c_C from Eq.symm (hf46_0.trans (by unfold f0_46; exact (if_neg hc52).trans ((if_pos hc71).trans ((if_pos hc124).trans ((if_pos hc135).trans ((if_pos hc142).trans (if_neg hc211))))))))), N35⟩ (by decide) (by decide)
              · refine OGo.st (fun _ k => XS.icmpYes X34.here hx rfl (pc0 := 142) (pc' := 156) rfl (hb hby at_142) rfl (feq hc142).2 (by decide) (by decide) k) ?_
                show OGo p e below s _ _ _ (T34.setTop (mkF m 156 #[.val (.long q0), .second, .val (.long q1), .second, .val (.int p2), .val (.int p3), .val (.int p4), .val (.int (f1 (1 : Int32) (p2 &&& (2147483647 : Int32)))), .val (.int j32_0), .val (.long j46_0), .second, .val (.ref w_LINED), .val (.ref w_SCATTERED), .val (.ref b31), .val (.ref b33), .val (.int (v0_0 q0 q1 p2 p3 p4 w_LINED w_SCATTERED w_C c_C j32_0 j46_0)), .val (.ref b33), .unset] []))
                refine OGo.st (fun _ k => XS.iconst X34.here hx rfl (hb hby at_156) k) ?_
                show OGo p e below s _ _ _ (T34.setTop (mkF m 157 #[.val (.long q0), .second, .val (.long q1), .second, .val (.int p2), .val (.int p3), .val (.int p4), .val (.int (f1 (1 : Int32) (p2 &&& (2147483647 : Int32)))), .val (.int j32_0), .val (.long j46_0), .second, .val (.ref w_LINED), .val (.ref w_SCATTERED), .val (.ref b31), .val (.ref b33), .val (.int (v0_0 q0 q1 p2 p3 p4 w_LINED w_SCATTERED w_C c_C j32_0 j46_0)), .val (.ref b33), .unset] [(.int (0 : Int32))]))
                refine OGo.st (fun _ k => XS.istore X34.here hx rfl (hb hby at_157) rfl (l' := #[.val (.long q0), .second, .val (.long q1), .second, .val (.int p2), .val (.int p3), .val (.int p4), .val (.int (f1 (1 : Int32) (p2 &&& (2147483647 : Int32)))), .val (.int j32_0), .val (.long j46_0), .second, .val (.ref w_LINED), .val (.ref w_SCATTERED), .val (.ref b31), .val (.ref b33), .val (.int (v0_0 q0 q1 p2 p3 p4 w_LINED w_SCATTERED w_C c_C j32_0 j46_0)), .val (.ref b33), .val (.int (0 : Int32))]) rfl k) ?_
                show OGo p e below s _ _ _ (T34.setTop (mkF m 159 #[.val (.long q0), .second, .val (.long q1), .second, .val (.int p2), .val (.int p3), .val (.int p4), .val (.int (f1 (1 : Int32) (p2 &&& (2147483647 : Int32)))), .val (.int j32_0), .val (.long j46_0), .second, .val (.ref w_LINED), .val (.ref w_SCATTERED), .val (.ref b31), .val (.ref b33), .val (.int (v0_0 q0 q1 p2 p3 p4 w_LINED w_SCATTERED w_C c_C j32_0 j46_0)), .val (.ref b33), .val (.int (0 : Int32))] []))
                refine OGo.st (fun _ k => XS.goto X34.here hx rfl (pc0 := 159) (pc' := 202) rfl (hb hby at_159) (by decide) (by decide) k) ?_
                show OGo p e below s _ _ _ (T34.setTop (mkF m 202 #[.val (.long q0), .second, .val (.long q1), .second, .val (.int p2), .val (.int p3), .val (.int p4), .val (.int (f1 (1 : Int32) (p2 &&& (2147483647 : Int32)))), .val (.int j32_0), .val (.long j46_0), .second, .val (.ref w_LINED), .val (.ref w_SCATTERED), .val (.ref b31), .val (.ref b33), .val (.int (v0_0 q0 q1 p2 p3 p4 w_LINED w_SCATTERED w_C c_C j32_0 j46_0)), .val (.ref b33), .val (.int (0 : Int32))] []))
                refine OGo.st (fun _ k => XS.aload X34.here hx rfl (hb hby at_202) rfl rfl k) ?_
                show OGo p e below s _ _ _ (T34.setTop (mkF m 204 #[.val (.long q0), .second, .val (.long q1), .second, .val (.int p2), .val (.int p3), .val (.int p4), .val (.int (f1 (1 : Int32) (p2 &&& (2147483647 : Int32)))), .val (.int j32_0), .val (.long j46_0), .second, .val (.ref w_LINED), .val (.ref w_SCATTERED), .val (.ref b31), .val (.ref b33), .val (.int (v0_0 q0 q1 p2 p3 p4 w_LINED w_SCATTERED w_C c_C j32_0 j46_0)), .val (.ref b33), .val (.int (0 : Int32))] [(.ref b31)]))
                refine OGo.st (fun _ k => XS.aload X34.here hx rfl (hb hby at_204) rfl rfl k) ?_
                show OGo p e below s _ _ _ (T34.setTop (mkF m 206 #[.val (.long q0), .second, .val (.long q1), .second, .val (.int p2), .val (.int p3), .val (.int p4), .val (.int (f1 (1 : Int32) (p2 &&& (2147483647 : Int32)))), .val (.int j32_0), .val (.long j46_0), .second, .val (.ref w_LINED), .val (.ref w_SCATTERED), .val (.ref b31), .val (.ref b33), .val (.int (v0_0 q0 q1 p2 p3 p4 w_LINED w_SCATTERED w_C c_C j32_0 j46_0)), .val (.ref b33), .val (.int (0 : Int32))] [(.ref b33), (.ref b31)]))
                obtain ⟨cq36, kq36, q36a, q36b, q36c⟩ := isOf hZ rfl A31_w34
                obtain ⟨_, _, ⟨T36, L36, k36, n36⟩, -, X36, ⟨Lc36, hQ36, l36, y36, z36⟩, st36⟩ := X34.virtualBack hx (y := (⟨"com/example/hazy_set/hazyset/BloomShape", "equals", "(Ljava/lang/Object;)Z"⟩ : MethodName)) (z := (⟨"com/example/hazy_set/hazyset/BloomShape", "equals", "(Ljava/lang/Object;)Z"⟩ : MethodName)) hown (mvT hZ (hw _ (List.mem_of_getElem? (i := 46) rfl))) (mvT hZ (hw _ (List.mem_of_getElem? (i := 47) rfl))) (notFace_of_selects (args := #[]) (mvT hZ (hw _ (List.mem_of_getElem? (i := 49) rfl)))) (mvT hZ (hw _ (List.mem_of_getElem? (i := 49) rfl))) (mvT hZ (hw _ (List.mem_of_getElem? (i := 48) rfl))) (by decide) (backOf (W := 0) (rm6B l Z a0 hw [] b31 b33 q0 (f1 (1 : Int32) (p2 &&& (2147483647 : Int32))) w_LINED j46_0 j32_0 w_SCATTERED T34.heap n0 Z34 A31_w34 G32_0_w34 G32_1_w34 G32_2_w34 A33_w34 G34_0 G34_1 G34_2) hZ (hw _ (List.mem_of_getElem? (i := 50) rfl)) (hw _ (List.mem_of_getElem? (i := 10) rfl)) (by decide) (by decide)) q36a q36c (g := (mkF m 206 #[.val (.long q0), .second, .val (.long q1), .second, .val (.int p2), .val (.int p3), .val (.int p4), .val (.int (f1 (1 : Int32) (p2 &&& (2147483647 : Int32)))), .val (.int j32_0), .val (.long j46_0), .second, .val (.ref w_LINED), .val (.ref w_SCATTERED), .val (.ref b31), .val (.ref b33), .val (.int (v0_0 q0 q1 p2 p3 p4 w_LINED w_SCATTERED w_C c_C j32_0 j46_0)), .val (.ref b33), .val (.int (0 : Int32))] [(.ref b33), (.ref b31)])) rfl (by rw [hml]; rfl) (Steps.refl _) (argsL := [(.ref b33)]) (rest := []) (lenOf pd_0_2 rfl) rfl (by show 2 * 0 + _ ≤ _; exact Nat.le_of_eq rfl) (hb hby at_206) (fun _ _ => ⟨rfl, rfl, (by decide : 2 + 0 ≤ _), (by decide : 14 + 0 ≤ _)⟩)
                dsimp only [Pt.U, Pt.locs, Pt.cells, Pt.slots] at X36 l36 y36 z36 st36 hQ36
                subst l36 y36 z36
                obtain ⟨rfl, N36q, e36⟩ := hQ36
                have N36 := Fr.app N34 N36q
                refine OGo.st (fun _ k => st36.trans k) ?_
                show OGo p e below s _ _ _ (T36.setTop (mkF m 209 #[.val (.long q0), .second, .val (.long q1), .second, .val (.int p2), .val (.int p3), .val (.int p4), .val (.int (f1 (1 : Int32) (p2 &&& (2147483647 : Int32)))), .val (.int j32_0), .val (.long j46_0), .second, .val (.ref w_LINED), .val (.ref w_SCATTERED), .val (.ref b31), .val (.ref b33), .val (.int (v0_0 q0 q1 p2 p3 p4 w_LINED w_SCATTERED w_C c_C j32_0 j46_0)), .val (.ref b33), .val (.int (0 : Int32))] [(.int (f6B q0 (f1 (1 : Int32) (p2 &&& (2147483647 : Int32))) w_LINED j46_0 j32_0 w_SCATTERED))]))
                refine OGo.st (fun _ k => XS.iload X36.here hx rfl (hb hby at_209) rfl k) ?_
                show OGo p e below s _ _ _ (T36.setTop (mkF m 211 #[.val (.long q0), .second, .val (.long q1), .second, .val (.int p2), .val (.int p3), .val (.int p4), .val (.int (f1 (1 : Int32) (p2 &&& (2147483647 : Int32)))), .val (.int j32_0), .val (.long j46_0), .second, .val (.ref w_LINED), .val (.ref w_SCATTERED), .val (.ref b31), .val (.ref b33), .val (.int (v0_0 q0 q1 p2 p3 p4 w_LINED w_SCATTERED w_C c_C j32_0 j46_0)), .val (.ref b33), .val (.int (0 : Int32))] [(.int (0 : Int32)), (.int (f6B q0 (f1 (1 : Int32) (p2 &&& (2147483647 : Int32))) w_LINED j46_0 j32_0 w_SCATTERED))]))
                by_cases hc211 : (f6B q0 (f1 (1 : Int32) (p2 &&& (2147483647 : Int32))) w_LINED j46_0 j32_0 w_SCATTERED) = (0 : Int32)
                · refine OGo.st (fun _ k => XS.icmpNo X36.here hx rfl (hb hby at_211) rfl (teq hc211).2 k) ?_
                  show OGo p e below s _ _ _ (T36.setTop (mkF m 214 #[.val (.long q0), .second, .val (.long q1), .second, .val (.int p2), .val (.int p3), .val (.int p4), .val (.int (f1 (1 : Int32) (p2 &&& (2147483647 : Int32)))), .val (.int j32_0), .val (.long j46_0), .second, .val (.ref w_LINED), .val (.ref w_SCATTERED), .val (.ref b31), .val (.ref b33), .val (.int (v0_0 q0 q1 p2 p3 p4 w_LINED w_SCATTERED w_C c_C j32_0 j46_0)), .val (.ref b33), .val (.int (0 : Int32))] []))
                  refine OGo.st (fun _ k => XS.iconst X36.here hx rfl (hb hby at_214) k) ?_
                  show OGo p e below s _ _ _ (T36.setTop (mkF m 215 #[.val (.long q0), .second, .val (.long q1), .second, .val (.int p2), .val (.int p3), .val (.int p4), .val (.int (f1 (1 : Int32) (p2 &&& (2147483647 : Int32)))), .val (.int j32_0), .val (.long j46_0), .second, .val (.ref w_LINED), .val (.ref w_SCATTERED), .val (.ref b31), .val (.ref b33), .val (.int (v0_0 q0 q1 p2 p3 p4 w_LINED w_SCATTERED w_C c_C j32_0 j46_0)), .val (.ref b33), .val (.int (0 : Int32))] [(.int (1 : Int32))]))
                  refine OGo.st (fun _ k => XS.goto X36.here hx rfl (pc0 := 215) (pc' := 219) rfl (hb hby at_215) (by decide) (by decide) k) ?_
                  show OGo p e below s _ _ _ (T36.setTop (mkF m 219 #[.val (.long q0), .second, .val (.long q1), .second, .val (.int p2), .val (.int p3), .val (.int p4), .val (.int (f1 (1 : Int32) (p2 &&& (2147483647 : Int32)))), .val (.int j32_0), .val (.long j46_0), .second, .val (.ref w_LINED), .val (.ref w_SCATTERED), .val (.ref b31), .val (.ref b33), .val (.int (v0_0 q0 q1 p2 p3 p4 w_LINED w_SCATTERED w_C c_C j32_0 j46_0)), .val (.ref b33), .val (.int (0 : Int32))] [(.int (1 : Int32))]))
                  exact oretN X36 hx Bd.notSynchronized (t := .boolean) Bd.returns (by simp) (hb hby at_219) (z' := (1 : Int32)) (by decide) e36 ⟨(congrArg (fun z => some (Value.int z)) (show (1 : Int32) = f0 q0 q1 p2 p3 p4 w_LINED w_SCATTERED w_C c_C from Eq.symm (hf46_0.trans (by unfold f0_46; exact (if_neg hc52).trans ((if_pos hc71).trans ((if_pos hc124).trans ((if_pos hc135).trans ((if_neg hc142).trans (if_pos hc211))))))))), N36⟩ (by decide) (by decide)
                · refine OGo.st (fun _ k => XS.icmpYes X36.here hx rfl (pc0 := 211) (pc' := 218) rfl (hb hby at_211) rfl (feq hc211).2 (by decide) (by decide) k) ?_
                  show OGo p e below s _ _ _ (T36.setTop (mkF m 218 #[.val (.long q0), .second, .val (.long q1), .second, .val (.int p2), .val (.int p3), .val (.int p4), .val (.int (f1 (1 : Int32) (p2 &&& (2147483647 : Int32)))), .val (.int j32_0), .val (.long j46_0), .second, .val (.ref w_LINED), .val (.ref w_SCATTERED), .val (.ref b31), .val (.ref b33), .val (.int (v0_0 q0 q1 p2 p3 p4 w_LINED w_SCATTERED w_C c_C j32_0 j46_0)), .val (.ref b33), .val (.int (0 : Int32))] []))
                  refine OGo.st (fun _ k => XS.iconst X36.here hx rfl (hb hby at_218) k) ?_
                  show OGo p e below s _ _ _ (T36.setTop (mkF m 219 #[.val (.long q0), .second, .val (.long q1), .second, .val (.int p2), .val (.int p3), .val (.int p4), .val (.int (f1 (1 : Int32) (p2 &&& (2147483647 : Int32)))), .val (.int j32_0), .val (.long j46_0), .second, .val (.ref w_LINED), .val (.ref w_SCATTERED), .val (.ref b31), .val (.ref b33), .val (.int (v0_0 q0 q1 p2 p3 p4 w_LINED w_SCATTERED w_C c_C j32_0 j46_0)), .val (.ref b33), .val (.int (0 : Int32))] [(.int (0 : Int32))]))
                  exact oretN X36 hx Bd.notSynchronized (t := .boolean) Bd.returns (by simp) (hb hby at_219) (z' := (0 : Int32)) (by decide) e36 ⟨(congrArg (fun z => some (Value.int z)) (show (0 : Int32) = f0 q0 q1 p2 p3 p4 w_LINED w_SCATTERED w_C c_C from Eq.symm (hf46_0.trans (by unfold f0_46; exact (if_neg hc52).trans ((if_pos hc71).trans ((if_pos hc124).trans ((if_pos hc135).trans ((if_neg hc142).trans (if_neg hc211))))))))), N36⟩ (by decide) (by decide)
            · refine OGo.st (fun _ k => XS.ifYes X34.here hx rfl (pc0 := 135) (pc' := 156) rfl (hb hby at_135) rfl ((if0 _ _).trans (feq (fun z => hc135 ((olc_eq _ _).mp z))).2) (by decide) (by decide) k) ?_
              show OGo p e below s _ _ _ (T34.setTop (mkF m 156 #[.val (.long q0), .second, .val (.long q1), .second, .val (.int p2), .val (.int p3), .val (.int p4), .val (.int (f1 (1 : Int32) (p2 &&& (2147483647 : Int32)))), .val (.int j32_0), .val (.long j46_0), .second, .val (.ref w_LINED), .val (.ref w_SCATTERED), .val (.ref b31), .val (.ref b33), .val (.int (v0_0 q0 q1 p2 p3 p4 w_LINED w_SCATTERED w_C c_C j32_0 j46_0)), .val (.ref b33), .unset] []))
              refine OGo.st (fun _ k => XS.iconst X34.here hx rfl (hb hby at_156) k) ?_
              show OGo p e below s _ _ _ (T34.setTop (mkF m 157 #[.val (.long q0), .second, .val (.long q1), .second, .val (.int p2), .val (.int p3), .val (.int p4), .val (.int (f1 (1 : Int32) (p2 &&& (2147483647 : Int32)))), .val (.int j32_0), .val (.long j46_0), .second, .val (.ref w_LINED), .val (.ref w_SCATTERED), .val (.ref b31), .val (.ref b33), .val (.int (v0_0 q0 q1 p2 p3 p4 w_LINED w_SCATTERED w_C c_C j32_0 j46_0)), .val (.ref b33), .unset] [(.int (0 : Int32))]))
              refine OGo.st (fun _ k => XS.istore X34.here hx rfl (hb hby at_157) rfl (l' := #[.val (.long q0), .second, .val (.long q1), .second, .val (.int p2), .val (.int p3), .val (.int p4), .val (.int (f1 (1 : Int32) (p2 &&& (2147483647 : Int32)))), .val (.int j32_0), .val (.long j46_0), .second, .val (.ref w_LINED), .val (.ref w_SCATTERED), .val (.ref b31), .val (.ref b33), .val (.int (v0_0 q0 q1 p2 p3 p4 w_LINED w_SCATTERED w_C c_C j32_0 j46_0)), .val (.ref b33), .val (.int (0 : Int32))]) rfl k) ?_
              show OGo p e below s _ _ _ (T34.setTop (mkF m 159 #[.val (.long q0), .second, .val (.long q1), .second, .val (.int p2), .val (.int p3), .val (.int p4), .val (.int (f1 (1 : Int32) (p2 &&& (2147483647 : Int32)))), .val (.int j32_0), .val (.long j46_0), .second, .val (.ref w_LINED), .val (.ref w_SCATTERED), .val (.ref b31), .val (.ref b33), .val (.int (v0_0 q0 q1 p2 p3 p4 w_LINED w_SCATTERED w_C c_C j32_0 j46_0)), .val (.ref b33), .val (.int (0 : Int32))] []))
              refine OGo.st (fun _ k => XS.goto X34.here hx rfl (pc0 := 159) (pc' := 202) rfl (hb hby at_159) (by decide) (by decide) k) ?_
              show OGo p e below s _ _ _ (T34.setTop (mkF m 202 #[.val (.long q0), .second, .val (.long q1), .second, .val (.int p2), .val (.int p3), .val (.int p4), .val (.int (f1 (1 : Int32) (p2 &&& (2147483647 : Int32)))), .val (.int j32_0), .val (.long j46_0), .second, .val (.ref w_LINED), .val (.ref w_SCATTERED), .val (.ref b31), .val (.ref b33), .val (.int (v0_0 q0 q1 p2 p3 p4 w_LINED w_SCATTERED w_C c_C j32_0 j46_0)), .val (.ref b33), .val (.int (0 : Int32))] []))
              refine OGo.st (fun _ k => XS.aload X34.here hx rfl (hb hby at_202) rfl rfl k) ?_
              show OGo p e below s _ _ _ (T34.setTop (mkF m 204 #[.val (.long q0), .second, .val (.long q1), .second, .val (.int p2), .val (.int p3), .val (.int p4), .val (.int (f1 (1 : Int32) (p2 &&& (2147483647 : Int32)))), .val (.int j32_0), .val (.long j46_0), .second, .val (.ref w_LINED), .val (.ref w_SCATTERED), .val (.ref b31), .val (.ref b33), .val (.int (v0_0 q0 q1 p2 p3 p4 w_LINED w_SCATTERED w_C c_C j32_0 j46_0)), .val (.ref b33), .val (.int (0 : Int32))] [(.ref b31)]))
              refine OGo.st (fun _ k => XS.aload X34.here hx rfl (hb hby at_204) rfl rfl k) ?_
              show OGo p e below s _ _ _ (T34.setTop (mkF m 206 #[.val (.long q0), .second, .val (.long q1), .second, .val (.int p2), .val (.int p3), .val (.int p4), .val (.int (f1 (1 : Int32) (p2 &&& (2147483647 : Int32)))), .val (.int j32_0), .val (.long j46_0), .second, .val (.ref w_LINED), .val (.ref w_SCATTERED), .val (.ref b31), .val (.ref b33), .val (.int (v0_0 q0 q1 p2 p3 p4 w_LINED w_SCATTERED w_C c_C j32_0 j46_0)), .val (.ref b33), .val (.int (0 : Int32))] [(.ref b33), (.ref b31)]))
              obtain ⟨cq37, kq37, q37a, q37b, q37c⟩ := isOf hZ rfl A31_w34
              obtain ⟨_, _, ⟨T37, L37, k37, n37⟩, -, X37, ⟨Lc37, hQ37, l37, y37, z37⟩, st37⟩ := X34.virtualBack hx (y := (⟨"com/example/hazy_set/hazyset/BloomShape", "equals", "(Ljava/lang/Object;)Z"⟩ : MethodName)) (z := (⟨"com/example/hazy_set/hazyset/BloomShape", "equals", "(Ljava/lang/Object;)Z"⟩ : MethodName)) hown (mvT hZ (hw _ (List.mem_of_getElem? (i := 46) rfl))) (mvT hZ (hw _ (List.mem_of_getElem? (i := 47) rfl))) (notFace_of_selects (args := #[]) (mvT hZ (hw _ (List.mem_of_getElem? (i := 49) rfl)))) (mvT hZ (hw _ (List.mem_of_getElem? (i := 49) rfl))) (mvT hZ (hw _ (List.mem_of_getElem? (i := 48) rfl))) (by decide) (backOf (W := 0) (rm6B l Z a0 hw [] b31 b33 q0 (f1 (1 : Int32) (p2 &&& (2147483647 : Int32))) w_LINED j46_0 j32_0 w_SCATTERED T34.heap n0 Z34 A31_w34 G32_0_w34 G32_1_w34 G32_2_w34 A33_w34 G34_0 G34_1 G34_2) hZ (hw _ (List.mem_of_getElem? (i := 50) rfl)) (hw _ (List.mem_of_getElem? (i := 10) rfl)) (by decide) (by decide)) q37a q37c (g := (mkF m 206 #[.val (.long q0), .second, .val (.long q1), .second, .val (.int p2), .val (.int p3), .val (.int p4), .val (.int (f1 (1 : Int32) (p2 &&& (2147483647 : Int32)))), .val (.int j32_0), .val (.long j46_0), .second, .val (.ref w_LINED), .val (.ref w_SCATTERED), .val (.ref b31), .val (.ref b33), .val (.int (v0_0 q0 q1 p2 p3 p4 w_LINED w_SCATTERED w_C c_C j32_0 j46_0)), .val (.ref b33), .val (.int (0 : Int32))] [(.ref b33), (.ref b31)])) rfl (by rw [hml]; rfl) (Steps.refl _) (argsL := [(.ref b33)]) (rest := []) (lenOf pd_0_2 rfl) rfl (by show 2 * 0 + _ ≤ _; exact Nat.le_of_eq rfl) (hb hby at_206) (fun _ _ => ⟨rfl, rfl, (by decide : 2 + 0 ≤ _), (by decide : 14 + 0 ≤ _)⟩)
              dsimp only [Pt.U, Pt.locs, Pt.cells, Pt.slots] at X37 l37 y37 z37 st37 hQ37
              subst l37 y37 z37
              obtain ⟨rfl, N37q, e37⟩ := hQ37
              have N37 := Fr.app N34 N37q
              refine OGo.st (fun _ k => st37.trans k) ?_
              show OGo p e below s _ _ _ (T37.setTop (mkF m 209 #[.val (.long q0), .second, .val (.long q1), .second, .val (.int p2), .val (.int p3), .val (.int p4), .val (.int (f1 (1 : Int32) (p2 &&& (2147483647 : Int32)))), .val (.int j32_0), .val (.long j46_0), .second, .val (.ref w_LINED), .val (.ref w_SCATTERED), .val (.ref b31), .val (.ref b33), .val (.int (v0_0 q0 q1 p2 p3 p4 w_LINED w_SCATTERED w_C c_C j32_0 j46_0)), .val (.ref b33), .val (.int (0 : Int32))] [(.int (f6B q0 (f1 (1 : Int32) (p2 &&& (2147483647 : Int32))) w_LINED j46_0 j32_0 w_SCATTERED))]))
              refine OGo.st (fun _ k => XS.iload X37.here hx rfl (hb hby at_209) rfl k) ?_
              show OGo p e below s _ _ _ (T37.setTop (mkF m 211 #[.val (.long q0), .second, .val (.long q1), .second, .val (.int p2), .val (.int p3), .val (.int p4), .val (.int (f1 (1 : Int32) (p2 &&& (2147483647 : Int32)))), .val (.int j32_0), .val (.long j46_0), .second, .val (.ref w_LINED), .val (.ref w_SCATTERED), .val (.ref b31), .val (.ref b33), .val (.int (v0_0 q0 q1 p2 p3 p4 w_LINED w_SCATTERED w_C c_C j32_0 j46_0)), .val (.ref b33), .val (.int (0 : Int32))] [(.int (0 : Int32)), (.int (f6B q0 (f1 (1 : Int32) (p2 &&& (2147483647 : Int32))) w_LINED j46_0 j32_0 w_SCATTERED))]))
              by_cases hc211 : (f6B q0 (f1 (1 : Int32) (p2 &&& (2147483647 : Int32))) w_LINED j46_0 j32_0 w_SCATTERED) = (0 : Int32)
              · refine OGo.st (fun _ k => XS.icmpNo X37.here hx rfl (hb hby at_211) rfl (teq hc211).2 k) ?_
                show OGo p e below s _ _ _ (T37.setTop (mkF m 214 #[.val (.long q0), .second, .val (.long q1), .second, .val (.int p2), .val (.int p3), .val (.int p4), .val (.int (f1 (1 : Int32) (p2 &&& (2147483647 : Int32)))), .val (.int j32_0), .val (.long j46_0), .second, .val (.ref w_LINED), .val (.ref w_SCATTERED), .val (.ref b31), .val (.ref b33), .val (.int (v0_0 q0 q1 p2 p3 p4 w_LINED w_SCATTERED w_C c_C j32_0 j46_0)), .val (.ref b33), .val (.int (0 : Int32))] []))
                refine OGo.st (fun _ k => XS.iconst X37.here hx rfl (hb hby at_214) k) ?_
                show OGo p e below s _ _ _ (T37.setTop (mkF m 215 #[.val (.long q0), .second, .val (.long q1), .second, .val (.int p2), .val (.int p3), .val (.int p4), .val (.int (f1 (1 : Int32) (p2 &&& (2147483647 : Int32)))), .val (.int j32_0), .val (.long j46_0), .second, .val (.ref w_LINED), .val (.ref w_SCATTERED), .val (.ref b31), .val (.ref b33), .val (.int (v0_0 q0 q1 p2 p3 p4 w_LINED w_SCATTERED w_C c_C j32_0 j46_0)), .val (.ref b33), .val (.int (0 : Int32))] [(.int (1 : Int32))]))
                refine OGo.st (fun _ k => XS.goto X37.here hx rfl (pc0 := 215) (pc' := 219) rfl (hb hby at_215) (by decide) (by decide) k) ?_
                show OGo p e below s _ _ _ (T37.setTop (mkF m 219 #[.val (.long q0), .second, .val (.long q1), .second, .val (.int p2), .val (.int p3), .val (.int p4), .val (.int (f1 (1 : Int32) (p2 &&& (2147483647 : Int32)))), .val (.int j32_0), .val (.long j46_0), .second, .val (.ref w_LINED), .val (.ref w_SCATTERED), .val (.ref b31), .val (.ref b33), .val (.int (v0_0 q0 q1 p2 p3 p4 w_LINED w_SCATTERED w_C c_C j32_0 j46_0)), .val (.ref b33), .val (.int (0 : Int32))] [(.int (1 : Int32))]))
                exact oretN X37 hx Bd.notSynchronized (t := .boolean) Bd.returns (by simp) (hb hby at_219) (z' := (1 : Int32)) (by decide) e37 ⟨(congrArg (fun z => some (Value.int z)) (show (1 : Int32) = f0 q0 q1 p2 p3 p4 w_LINED w_SCATTERED w_C c_C from Eq.symm (hf46_0.trans (by unfold f0_46; exact (if_neg hc52).trans ((if_pos hc71).trans ((if_pos hc124).trans ((if_neg hc135).trans (if_pos hc211)))))))), N37⟩ (by decide) (by decide)
              · refine OGo.st (fun _ k => XS.icmpYes X37.here hx rfl (pc0 := 211) (pc' := 218) rfl (hb hby at_211) rfl (feq hc211).2 (by decide) (by decide) k) ?_
                show OGo p e below s _ _ _ (T37.setTop (mkF m 218 #[.val (.long q0), .second, .val (.long q1), .second, .val (.int p2), .val (.int p3), .val (.int p4), .val (.int (f1 (1 : Int32) (p2 &&& (2147483647 : Int32)))), .val (.int j32_0), .val (.long j46_0), .second, .val (.ref w_LINED), .val (.ref w_SCATTERED), .val (.ref b31), .val (.ref b33), .val (.int (v0_0 q0 q1 p2 p3 p4 w_LINED w_SCATTERED w_C c_C j32_0 j46_0)), .val (.ref b33), .val (.int (0 : Int32))] []))
                refine OGo.st (fun _ k => XS.iconst X37.here hx rfl (hb hby at_218) k) ?_
                show OGo p e below s _ _ _ (T37.setTop (mkF m 219 #[.val (.long q0), .second, .val (.long q1), .second, .val (.int p2), .val (.int p3), .val (.int p4), .val (.int (f1 (1 : Int32) (p2 &&& (2147483647 : Int32)))), .val (.int j32_0), .val (.long j46_0), .second, .val (.ref w_LINED), .val (.ref w_SCATTERED), .val (.ref b31), .val (.ref b33), .val (.int (v0_0 q0 q1 p2 p3 p4 w_LINED w_SCATTERED w_C c_C j32_0 j46_0)), .val (.ref b33), .val (.int (0 : Int32))] [(.int (0 : Int32))]))
                exact oretN X37 hx Bd.notSynchronized (t := .boolean) Bd.returns (by simp) (hb hby at_219) (z' := (0 : Int32)) (by decide) e37 ⟨(congrArg (fun z => some (Value.int z)) (show (0 : Int32) = f0 q0 q1 p2 p3 p4 w_LINED w_SCATTERED w_C c_C from Eq.symm (hf46_0.trans (by unfold f0_46; exact (if_neg hc52).trans ((if_pos hc71).trans ((if_pos hc124).trans ((if_neg hc135).trans (if_neg hc211)))))))), N37⟩ (by decide) (by decide)
          · refine OGo.st (fun _ k => XS.ifYes X34.here hx rfl (pc0 := 124) (pc' := 162) rfl (hb hby at_124) rfl ((if0 _ _).trans (feq hc124).2) (by decide) (by decide) k) ?_
            show OGo p e below s _ _ _ (T34.setTop (mkF m 162 #[.val (.long q0), .second, .val (.long q1), .second, .val (.int p2), .val (.int p3), .val (.int p4), .val (.int (f1 (1 : Int32) (p2 &&& (2147483647 : Int32)))), .val (.int j32_0), .val (.long j46_0), .second, .val (.ref w_LINED), .val (.ref w_SCATTERED), .val (.ref b31), .val (.ref b33), .val (.int (v0_0 q0 q1 p2 p3 p4 w_LINED w_SCATTERED w_C c_C j32_0 j46_0)), .unset, .unset] []))
            refine OGo.st (fun _ k => XS.iload X34.here hx rfl (hb hby at_162) rfl k) ?_
            show OGo p e below s _ _ _ (T34.setTop (mkF m 164 #[.val (.long q0), .second, .val (.long q1), .second, .val (.int p2), .val (.int p3), .val (.int p4), .val (.int (f1 (1 : Int32) (p2 &&& (2147483647 : Int32)))), .val (.int j32_0), .val (.long j46_0), .second, .val (.ref w_LINED), .val (.ref w_SCATTERED), .val (.ref b31), .val (.ref b33), .val (.int (v0_0 q0 q1 p2 p3 p4 w_LINED w_SCATTERED w_C c_C j32_0 j46_0)), .unset, .unset] [(.int (v0_0 q0 q1 p2 p3 p4 w_LINED w_SCATTERED w_C c_C j32_0 j46_0))]))
            refine OGo.st (fun _ k => XS.iconst X34.here hx rfl (hb hby at_164) k) ?_
            show OGo p e below s _ _ _ (T34.setTop (mkF m 165 #[.val (.long q0), .second, .val (.long q1), .second, .val (.int p2), .val (.int p3), .val (.int p4), .val (.int (f1 (1 : Int32) (p2 &&& (2147483647 : Int32)))), .val (.int j32_0), .val (.long j46_0), .second, .val (.ref w_LINED), .val (.ref w_SCATTERED), .val (.ref b31), .val (.ref b33), .val (.int (v0_0 q0 q1 p2 p3 p4 w_LINED w_SCATTERED w_C c_C j32_0 j46_0)), .unset, .unset] [(.int (1 : Int32)), (.int (v0_0 q0 q1 p2 p3 p4 w_LINED w_SCATTERED w_C c_C j32_0 j46_0))]))
            by_cases hc165 : (v0_0 q0 q1 p2 p3 p4 w_LINED w_SCATTERED w_C c_C j32_0 j46_0) = (1 : Int32)
            · refine OGo.st (fun _ k => XS.icmpNo X34.here hx rfl (hb hby at_165) rfl (teq hc165).2 k) ?_
              show OGo p e below s _ _ _ (T34.setTop (mkF m 168 #[.val (.long q0), .second, .val (.long q1), .second, .val (.int p2), .val (.int p3), .val (.int p4), .val (.int (f1 (1 : Int32) (p2 &&& (2147483647 : Int32)))), .val (.int j32_0), .val (.long j46_0), .second, .val (.ref w_LINED), .val (.ref w_SCATTERED), .val (.ref b31), .val (.ref b33), .val (.int (v0_0 q0 q1 p2 p3 p4 w_LINED w_SCATTERED w_C c_C j32_0 j46_0)), .unset, .unset] []))
              refine OGo.st (fun _ k => XS.aconstNull X34.here hx rfl (hb hby at_168) k) ?_
              show OGo p e below s _ _ _ (T34.setTop (mkF m 169 #[.val (.long q0), .second, .val (.long q1), .second, .val (.int p2), .val (.int p3), .val (.int p4), .val (.int (f1 (1 : Int32) (p2 &&& (2147483647 : Int32)))), .val (.int j32_0), .val (.long j46_0), .second, .val (.ref w_LINED), .val (.ref w_SCATTERED), .val (.ref b31), .val (.ref b33), .val (.int (v0_0 q0 q1 p2 p3 p4 w_LINED w_SCATTERED w_C c_C j32_0 j46_0)), .unset, .unset] [.null]))
              refine OGo.st (fun _ k => XS.astore X34.here hx rfl (hb hby at_169) rfl rfl (l' := #[.val (.long q0), .second, .val (.long q1), .second, .val (.int p2), .val (.int p3), .val (.int p4), .val (.int (f1 (1 : Int32) (p2 &&& (2147483647 : Int32)))), .val (.int j32_0), .val (.long j46_0), .second, .val (.ref w_LINED), .val (.ref w_SCATTERED), .val (.ref b31), .val (.ref b33), .val (.int (v0_0 q0 q1 p2 p3 p4 w_LINED w_SCATTERED w_C c_C j32_0 j46_0)), .val .null, .unset]) rfl k) ?_
              show OGo p e below s _ _ _ (T34.setTop (mkF m 171 #[.val (.long q0), .second, .val (.long q1), .second, .val (.int p2), .val (.int p3), .val (.int p4), .val (.int (f1 (1 : Int32) (p2 &&& (2147483647 : Int32)))), .val (.int j32_0), .val (.long j46_0), .second, .val (.ref w_LINED), .val (.ref w_SCATTERED), .val (.ref b31), .val (.ref b33), .val (.int (v0_0 q0 q1 p2 p3 p4 w_LINED w_SCATTERED w_C c_C j32_0 j46_0)), .val .null, .unset] []))
              refine OGo.st (fun _ k => XS.iconst X34.here hx rfl (hb hby at_171) k) ?_
              show OGo p e below s _ _ _ (T34.setTop (mkF m 172 #[.val (.long q0), .second, .val (.long q1), .second, .val (.int p2), .val (.int p3), .val (.int p4), .val (.int (f1 (1 : Int32) (p2 &&& (2147483647 : Int32)))), .val (.int j32_0), .val (.long j46_0), .second, .val (.ref w_LINED), .val (.ref w_SCATTERED), .val (.ref b31), .val (.ref b33), .val (.int (v0_0 q0 q1 p2 p3 p4 w_LINED w_SCATTERED w_C c_C j32_0 j46_0)), .val .null, .unset] [(.int (0 : Int32))]))
              refine OGo.st (fun _ k => XS.istore X34.here hx rfl (hb hby at_172) rfl (l' := #[.val (.long q0), .second, .val (.long q1), .second, .val (.int p2), .val (.int p3), .val (.int p4), .val (.int (f1 (1 : Int32) (p2 &&& (2147483647 : Int32)))), .val (.int j32_0), .val (.long j46_0), .second, .val (.ref w_LINED), .val (.ref w_SCATTERED), .val (.ref b31), .val (.ref b33), .val (.int (v0_0 q0 q1 p2 p3 p4 w_LINED w_SCATTERED w_C c_C j32_0 j46_0)), .val .null, .val (.int (0 : Int32))]) rfl k) ?_
              show OGo p e below s _ _ _ (T34.setTop (mkF m 174 #[.val (.long q0), .second, .val (.long q1), .second, .val (.int p2), .val (.int p3), .val (.int p4), .val (.int (f1 (1 : Int32) (p2 &&& (2147483647 : Int32)))), .val (.int j32_0), .val (.long j46_0), .second, .val (.ref w_LINED), .val (.ref w_SCATTERED), .val (.ref b31), .val (.ref b33), .val (.int (v0_0 q0 q1 p2 p3 p4 w_LINED w_SCATTERED w_C c_C j32_0 j46_0)), .val .null, .val (.int (0 : Int32))] []))
              refine OGo.st (fun _ k => XS.goto X34.here hx rfl (pc0 := 174) (pc' := 202) rfl (hb hby at_174) (by decide) (by decide) k) ?_
              show OGo p e below s _ _ _ (T34.setTop (mkF m 202 #[.val (.long q0), .second, .val (.long q1), .second, .val (.int p2), .val (.int p3), .val (.int p4), .val (.int (f1 (1 : Int32) (p2 &&& (2147483647 : Int32)))), .val (.int j32_0), .val (.long j46_0), .second, .val (.ref w_LINED), .val (.ref w_SCATTERED), .val (.ref b31), .val (.ref b33), .val (.int (v0_0 q0 q1 p2 p3 p4 w_LINED w_SCATTERED w_C c_C j32_0 j46_0)), .val .null, .val (.int (0 : Int32))] []))
              refine OGo.st (fun _ k => XS.aload X34.here hx rfl (hb hby at_202) rfl rfl k) ?_
              show OGo p e below s _ _ _ (T34.setTop (mkF m 204 #[.val (.long q0), .second, .val (.long q1), .second, .val (.int p2), .val (.int p3), .val (.int p4), .val (.int (f1 (1 : Int32) (p2 &&& (2147483647 : Int32)))), .val (.int j32_0), .val (.long j46_0), .second, .val (.ref w_LINED), .val (.ref w_SCATTERED), .val (.ref b31), .val (.ref b33), .val (.int (v0_0 q0 q1 p2 p3 p4 w_LINED w_SCATTERED w_C c_C j32_0 j46_0)), .val .null, .val (.int (0 : Int32))] [(.ref b31)]))
              refine OGo.st (fun _ k => XS.aload X34.here hx rfl (hb hby at_204) rfl rfl k) ?_
              show OGo p e below s _ _ _ (T34.setTop (mkF m 206 #[.val (.long q0), .second, .val (.long q1), .second, .val (.int p2), .val (.int p3), .val (.int p4), .val (.int (f1 (1 : Int32) (p2 &&& (2147483647 : Int32)))), .val (.int j32_0), .val (.long j46_0), .second, .val (.ref w_LINED), .val (.ref w_SCATTERED), .val (.ref b31), .val (.ref b33), .val (.int (v0_0 q0 q1 p2 p3 p4 w_LINED w_SCATTERED w_C c_C j32_0 j46_0)), .val .null, .val (.int (0 : Int32))] [.null, (.ref b31)]))
              obtain ⟨cq38, kq38, q38a, q38b, q38c⟩ := isOf hZ rfl A31_w34
              obtain ⟨_, _, ⟨T38, L38, k38, n38⟩, -, X38, ⟨Lc38, hQ38, l38, y38, z38⟩, st38⟩ := X34.virtualBack hx (y := (⟨"com/example/hazy_set/hazyset/BloomShape", "equals", "(Ljava/lang/Object;)Z"⟩ : MethodName)) (z := (⟨"com/example/hazy_set/hazyset/BloomShape", "equals", "(Ljava/lang/Object;)Z"⟩ : MethodName)) hown (mvT hZ (hw _ (List.mem_of_getElem? (i := 46) rfl))) (mvT hZ (hw _ (List.mem_of_getElem? (i := 47) rfl))) (notFace_of_selects (args := #[]) (mvT hZ (hw _ (List.mem_of_getElem? (i := 49) rfl)))) (mvT hZ (hw _ (List.mem_of_getElem? (i := 49) rfl))) (mvT hZ (hw _ (List.mem_of_getElem? (i := 48) rfl))) (by decide) (backOf (W := 0) (rm6N l Z a0 hw [] b31 T34.heap n0 Z34) hZ (hw _ (List.mem_of_getElem? (i := 50) rfl)) (hw _ (List.mem_of_getElem? (i := 10) rfl)) (by decide) (by decide)) q38a q38c (g := (mkF m 206 #[.val (.long q0), .second, .val (.long q1), .second, .val (.int p2), .val (.int p3), .val (.int p4), .val (.int (f1 (1 : Int32) (p2 &&& (2147483647 : Int32)))), .val (.int j32_0), .val (.long j46_0), .second, .val (.ref w_LINED), .val (.ref w_SCATTERED), .val (.ref b31), .val (.ref b33), .val (.int (v0_0 q0 q1 p2 p3 p4 w_LINED w_SCATTERED w_C c_C j32_0 j46_0)), .val .null, .val (.int (0 : Int32))] [.null, (.ref b31)])) rfl (by rw [hml]; rfl) (Steps.refl _) (argsL := [.null]) (rest := []) (lenOf pd_0_2 rfl) rfl (by show 2 * 0 + _ ≤ _; exact Nat.le_of_eq rfl) (hb hby at_206) (fun _ _ => ⟨rfl, rfl, (by decide : 2 + 0 ≤ _), (by decide : 14 + 0 ≤ _)⟩)
              dsimp only [Pt.U, Pt.locs, Pt.cells, Pt.slots] at X38 l38 y38 z38 st38 hQ38
              subst l38 y38 z38
              obtain ⟨rfl, N38q, e38⟩ := hQ38
              have hl38 : (f6N) = (0 : Int32) := rfl
              have N38 := Fr.app N34 N38q
              refine OGo.st (fun _ k => st38.trans k) ?_
              show OGo p e below s _ _ _ (T38.setTop (mkF m 209 #[.val (.long q0), .second, .val (.long q1), .second, .val (.int p2), .val (.int p3), .val (.int p4), .val (.int (f1 (1 : Int32) (p2 &&& (2147483647 : Int32)))), .val (.int j32_0), .val (.long j46_0), .second, .val (.ref w_LINED), .val (.ref w_SCATTERED), .val (.ref b31), .val (.ref b33), .val (.int (v0_0 q0 q1 p2 p3 p4 w_LINED w_SCATTERED w_C c_C j32_0 j46_0)), .val .null, .val (.int (0 : Int32))] [(.int (0 : Int32))]))
              refine OGo.st (fun _ k => XS.iload X38.here hx rfl (hb hby at_209) rfl k) ?_
              show OGo p e below s _ _ _ (T38.setTop (mkF m 211 #[.val (.long q0), .second, .val (.long q1), .second, .val (.int p2), .val (.int p3), .val (.int p4), .val (.int (f1 (1 : Int32) (p2 &&& (2147483647 : Int32)))), .val (.int j32_0), .val (.long j46_0), .second, .val (.ref w_LINED), .val (.ref w_SCATTERED), .val (.ref b31), .val (.ref b33), .val (.int (v0_0 q0 q1 p2 p3 p4 w_LINED w_SCATTERED w_C c_C j32_0 j46_0)), .val .null, .val (.int (0 : Int32))] [(.int (0 : Int32)), (.int (0 : Int32))]))
              refine OGo.st (fun _ k => XS.icmpNo X38.here hx rfl (hb hby at_211) rfl (teq (by decide : (0 : Int32) = (0 : Int32))).2 k) ?_
              show OGo p e below s _ _ _ (T38.setTop (mkF m 214 #[.val (.long q0), .second, .val (.long q1), .second, .val (.int p2), .val (.int p3), .val (.int p4), .val (.int (f1 (1 : Int32) (p2 &&& (2147483647 : Int32)))), .val (.int j32_0), .val (.long j46_0), .second, .val (.ref w_LINED), .val (.ref w_SCATTERED), .val (.ref b31), .val (.ref b33), .val (.int (v0_0 q0 q1 p2 p3 p4 w_LINED w_SCATTERED w_C c_C j32_0 j46_0)), .val .null, .val (.int (0 : Int32))] []))
              refine OGo.st (fun _ k => XS.iconst X38.here hx rfl (hb hby at_214) k) ?_
              show OGo p e below s _ _ _ (T38.setTop (mkF m 215 #[.val (.long q0), .second, .val (.long q1), .second, .val (.int p2), .val (.int p3), .val (.int p4), .val (.int (f1 (1 : Int32) (p2 &&& (2147483647 : Int32)))), .val (.int j32_0), .val (.long j46_0), .second, .val (.ref w_LINED), .val (.ref w_SCATTERED), .val (.ref b31), .val (.ref b33), .val (.int (v0_0 q0 q1 p2 p3 p4 w_LINED w_SCATTERED w_C c_C j32_0 j46_0)), .val .null, .val (.int (0 : Int32))] [(.int (1 : Int32))]))
              refine OGo.st (fun _ k => XS.goto X38.here hx rfl (pc0 := 215) (pc' := 219) rfl (hb hby at_215) (by decide) (by decide) k) ?_
              show OGo p e below s _ _ _ (T38.setTop (mkF m 219 #[.val (.long q0), .second, .val (.long q1), .second, .val (.int p2), .val (.int p3), .val (.int p4), .val (.int (f1 (1 : Int32) (p2 &&& (2147483647 : Int32)))), .val (.int j32_0), .val (.long j46_0), .second, .val (.ref w_LINED), .val (.ref w_SCATTERED), .val (.ref b31), .val (.ref b33), .val (.int (v0_0 q0 q1 p2 p3 p4 w_LINED w_SCATTERED w_C c_C j32_0 j46_0)), .val .null, .val (.int (0 : Int32))] [(.int (1 : Int32))]))
              exact oretN X38 hx Bd.notSynchronized (t := .boolean) Bd.returns (by simp) (hb hby at_219) (z' := (1 : Int32)) (by decide) e38 ⟨(congrArg (fun z => some (Value.int z)) (show (1 : Int32) = f0 q0 q1 p2 p3 p4 w_LINED w_SCATTERED w_C c_C from Eq.symm (hf46_0.trans (by unfold f0_46; exact (if_neg hc52).trans ((if_pos hc71).trans ((if_neg hc124).trans (if_pos hc165))))))), N38⟩ (by decide) (by decide)
            · refine OGo.st (fun _ k => XS.icmpYes X34.here hx rfl (pc0 := 165) (pc' := 177) rfl (hb hby at_165) rfl (feq hc165).2 (by decide) (by decide) k) ?_
              show OGo p e below s _ _ _ (T34.setTop (mkF m 177 #[.val (.long q0), .second, .val (.long q1), .second, .val (.int p2), .val (.int p3), .val (.int p4), .val (.int (f1 (1 : Int32) (p2 &&& (2147483647 : Int32)))), .val (.int j32_0), .val (.long j46_0), .second, .val (.ref w_LINED), .val (.ref w_SCATTERED), .val (.ref b31), .val (.ref b33), .val (.int (v0_0 q0 q1 p2 p3 p4 w_LINED w_SCATTERED w_C c_C j32_0 j46_0)), .unset, .unset] []))
              refine OGo.st (fun _ k => XS.iload X34.here hx rfl (hb hby at_177) rfl k) ?_
              show OGo p e below s _ _ _ (T34.setTop (mkF m 179 #[.val (.long q0), .second, .val (.long q1), .second, .val (.int p2), .val (.int p3), .val (.int p4), .val (.int (f1 (1 : Int32) (p2 &&& (2147483647 : Int32)))), .val (.int j32_0), .val (.long j46_0), .second, .val (.ref w_LINED), .val (.ref w_SCATTERED), .val (.ref b31), .val (.ref b33), .val (.int (v0_0 q0 q1 p2 p3 p4 w_LINED w_SCATTERED w_C c_C j32_0 j46_0)), .unset, .unset] [(.int (v0_0 q0 q1 p2 p3 p4 w_LINED w_SCATTERED w_C c_C j32_0 j46_0))]))
              refine OGo.st (fun _ k => XS.iconst X34.here hx rfl (hb hby at_179) k) ?_
              show OGo p e below s _ _ _ (T34.setTop (mkF m 180 #[.val (.long q0), .second, .val (.long q1), .second, .val (.int p2), .val (.int p3), .val (.int p4), .val (.int (f1 (1 : Int32) (p2 &&& (2147483647 : Int32)))), .val (.int j32_0), .val (.long j46_0), .second, .val (.ref w_LINED), .val (.ref w_SCATTERED), .val (.ref b31), .val (.ref b33), .val (.int (v0_0 q0 q1 p2 p3 p4 w_LINED w_SCATTERED w_C c_C j32_0 j46_0)), .unset, .unset] [(.int (2 : Int32)), (.int (v0_0 q0 q1 p2 p3 p4 w_LINED w_SCATTERED w_C c_C j32_0 j46_0))]))
              by_cases hc180 : (v0_0 q0 q1 p2 p3 p4 w_LINED w_SCATTERED w_C c_C j32_0 j46_0) = (2 : Int32)
              · refine OGo.st (fun _ k => XS.icmpNo X34.here hx rfl (hb hby at_180) rfl (teq hc180).2 k) ?_
                show OGo p e below s _ _ _ (T34.setTop (mkF m 183 #[.val (.long q0), .second, .val (.long q1), .second, .val (.int p2), .val (.int p3), .val (.int p4), .val (.int (f1 (1 : Int32) (p2 &&& (2147483647 : Int32)))), .val (.int j32_0), .val (.long j46_0), .second, .val (.ref w_LINED), .val (.ref w_SCATTERED), .val (.ref b31), .val (.ref b33), .val (.int (v0_0 q0 q1 p2 p3 p4 w_LINED w_SCATTERED w_C c_C j32_0 j46_0)), .unset, .unset] []))
                refine OGo.st (fun _ k => XS.lloadN X34.here hx rfl (hb hby at_183) rfl k) ?_
                show OGo p e below s _ _ _ (T34.setTop (mkF m 184 #[.val (.long q0), .second, .val (.long q1), .second, .val (.int p2), .val (.int p3), .val (.int p4), .val (.int (f1 (1 : Int32) (p2 &&& (2147483647 : Int32)))), .val (.int j32_0), .val (.long j46_0), .second, .val (.ref w_LINED), .val (.ref w_SCATTERED), .val (.ref b31), .val (.ref b33), .val (.int (v0_0 q0 q1 p2 p3 p4 w_LINED w_SCATTERED w_C c_C j32_0 j46_0)), .unset, .unset] [(.long q0)]))
                obtain ⟨_, _, ⟨T39, L39, k39, n39⟩, -, X39, ⟨Lc39, hQ39, l39, y39, z39⟩, st39⟩ := Jvm.LawKit.callS X34 hx (y := (⟨"java/lang/Long", "valueOf", "(J)Ljava/lang/Long;"⟩ : MethodName)) hown (mvT hZ (hw _ (List.mem_of_getElem? (i := 55) rfl))) (mvT hZ (hw _ (List.mem_of_getElem? (i := 56) rfl))) (mvT hZ (hw _ (List.mem_of_getElem? (i := 57) rfl))) (mvT hZ (hw _ (List.mem_of_getElem? (i := 58) rfl))) (by decide) (backOf (W := 0) (rm7 l Z a0 hw [] q0 w_C (c_C) T34.heap n0 Z34 S_C_w34 hB (hZh ▸ K34)) hZ (hw _ (List.mem_of_getElem? (i := 58) rfl)) (hw _ (List.mem_of_getElem? (i := 57) rfl)) (by decide) (by decide)) (g := (mkF m 184 #[.val (.long q0), .second, .val (.long q1), .second, .val (.int p2), .val (.int p3), .val (.int p4), .val (.int (f1 (1 : Int32) (p2 &&& (2147483647 : Int32)))), .val (.int j32_0), .val (.long j46_0), .second, .val (.ref w_LINED), .val (.ref w_SCATTERED), .val (.ref b31), .val (.ref b33), .val (.int (v0_0 q0 q1 p2 p3 p4 w_LINED w_SCATTERED w_C c_C j32_0 j46_0)), .unset, .unset] [(.long q0)])) rfl (by rw [hml]; rfl) (argsL := [(.long q0)]) (rest := []) (lenOf pd_0_3 rfl) rfl (by show 2 * 0 + _ ≤ _; exact Nat.le_of_eq rfl) (hb hby at_184) (fun _ _ => ⟨rfl, rfl, (by decide : 2 + 1 ≤ _), (by decide : 14 + 1 ≤ _)⟩)
                dsimp only [Pt.U, Pt.locs, Pt.cells, Pt.slots] at X39 l39 y39 z39 st39 hQ39
                subst l39 y39 z39
                obtain ⟨b39, rfl, N39q, Kc39, A39⟩ := hQ39
                have S_LINED_w39 := osta_keep S_LINED_w34 Kc39 (fun _ _ _ _ => nin0)
                have S_SCATTERED_w39 := osta_keep S_SCATTERED_w34 Kc39 (fun _ _ _ _ => nin0)
                have E_LINED_w39 := E_LINED_w34.keep Kc39
                have E_SCATTERED_w39 := E_SCATTERED_w34.keep Kc39
                have O_LINED_lineShift_w39 := O_LINED_lineShift_w34.keep Kc39 nin0
                have O_LINED_ordinal_w39 := O_LINED_ordinal_w34.keep Kc39 nin0
                have O_SCATTERED_lineShift_w39 := O_SCATTERED_lineShift_w34.keep Kc39 nin0
                have O_SCATTERED_ordinal_w39 := O_SCATTERED_ordinal_w34.keep Kc39 nin0
                have S_C_w39 := osta_keep S_C_w34 Kc39 (fun _ _ _ _ => nin0)
                have A31_w39 := A31_w34.keep Kc39
                have G32_0_w39 := G32_0_w34.keep Kc39 nin0
                have G32_1_w39 := G32_1_w34.keep Kc39 nin0
                have G32_2_w39 := G32_2_w34.keep Kc39 nin0
                have A33_w39 := A33_w34.keep Kc39
                have G34_0_w39 := G34_0.keep Kc39 nin0
                have G34_1_w39 := G34_1.keep Kc39 nin0
                have G34_2_w39 := G34_2.keep Kc39 nin0
                have K39 : Keep h0 T39.heap [] := (K34).trans Kc39 all0
                have Z39 : n0 ≤ T39.heap.size := Nat.le_trans Z34 Kc39.1
                have N39 := Fr.app N34 N39q
                refine OGo.st st39 ?_
                show OGo p e below s _ _ _ (T39.setTop (mkF m 187 #[.val (.long q0), .second, .val (.long q1), .second, .val (.int p2), .val (.int p3), .val (.int p4), .val (.int (f1 (1 : Int32) (p2 &&& (2147483647 : Int32)))), .val (.int j32_0), .val (.long j46_0), .second, .val (.ref w_LINED), .val (.ref w_SCATTERED), .val (.ref b31), .val (.ref b33), .val (.int (v0_0 q0 q1 p2 p3 p4 w_LINED w_SCATTERED w_C c_C j32_0 j46_0)), .unset, .unset] [(.ref b39)]))
                refine OGo.st (fun _ k => XS.astore X39.here hx rfl (hb hby at_187) rfl rfl (l' := #[.val (.long q0), .second, .val (.long q1), .second, .val (.int p2), .val (.int p3), .val (.int p4), .val (.int (f1 (1 : Int32) (p2 &&& (2147483647 : Int32)))), .val (.int j32_0), .val (.long j46_0), .second, .val (.ref w_LINED), .val (.ref w_SCATTERED), .val (.ref b31), .val (.ref b33), .val (.int (v0_0 q0 q1 p2 p3 p4 w_LINED w_SCATTERED w_C c_C j32_0 j46_0)), .val (.ref b39), .unset]) rfl k) ?_
                show OGo p e below s _ _ _ (T39.setTop (mkF m 189 #[.val (.long q0), .second, .val (.long q1), .second, .val (.int p2), .val (.int p3), .val (.int p4), .val (.int (f1 (1 : Int32) (p2 &&& (2147483647 : Int32)))), .val (.int j32_0), .val (.long j46_0), .second, .val (.ref w_LINED), .val (.ref w_SCATTERED), .val (.ref b31), .val (.ref b33), .val (.int (v0_0 q0 q1 p2 p3 p4 w_LINED w_SCATTERED w_C c_C j32_0 j46_0)), .val (.ref b39), .unset] []))
                refine OGo.st (fun _ k => XS.iconst X39.here hx rfl (hb hby at_189) k) ?_
                show OGo p e below s _ _ _ (T39.setTop (mkF m 190 #[.val (.long q0), .second, .val (.long q1), .second, .val (.int p2), .val (.int p3), .val (.int p4), .val (.int (f1 (1 : Int32) (p2 &&& (2147483647 : Int32)))), .val (.int j32_0), .val (.long j46_0), .second, .val (.ref w_LINED), .val (.ref w_SCATTERED), .val (.ref b31), .val (.ref b33), .val (.int (v0_0 q0 q1 p2 p3 p4 w_LINED w_SCATTERED w_C c_C j32_0 j46_0)), .val (.ref b39), .unset] [(.int (0 : Int32))]))
                refine OGo.st (fun _ k => XS.istore X39.here hx rfl (hb hby at_190) rfl (l' := #[.val (.long q0), .second, .val (.long q1), .second, .val (.int p2), .val (.int p3), .val (.int p4), .val (.int (f1 (1 : Int32) (p2 &&& (2147483647 : Int32)))), .val (.int j32_0), .val (.long j46_0), .second, .val (.ref w_LINED), .val (.ref w_SCATTERED), .val (.ref b31), .val (.ref b33), .val (.int (v0_0 q0 q1 p2 p3 p4 w_LINED w_SCATTERED w_C c_C j32_0 j46_0)), .val (.ref b39), .val (.int (0 : Int32))]) rfl k) ?_
                show OGo p e below s _ _ _ (T39.setTop (mkF m 192 #[.val (.long q0), .second, .val (.long q1), .second, .val (.int p2), .val (.int p3), .val (.int p4), .val (.int (f1 (1 : Int32) (p2 &&& (2147483647 : Int32)))), .val (.int j32_0), .val (.long j46_0), .second, .val (.ref w_LINED), .val (.ref w_SCATTERED), .val (.ref b31), .val (.ref b33), .val (.int (v0_0 q0 q1 p2 p3 p4 w_LINED w_SCATTERED w_C c_C j32_0 j46_0)), .val (.ref b39), .val (.int (0 : Int32))] []))
                refine OGo.st (fun _ k => XS.goto X39.here hx rfl (pc0 := 192) (pc' := 202) rfl (hb hby at_192) (by decide) (by decide) k) ?_
                show OGo p e below s _ _ _ (T39.setTop (mkF m 202 #[.val (.long q0), .second, .val (.long q1), .second, .val (.int p2), .val (.int p3), .val (.int p4), .val (.int (f1 (1 : Int32) (p2 &&& (2147483647 : Int32)))), .val (.int j32_0), .val (.long j46_0), .second, .val (.ref w_LINED), .val (.ref w_SCATTERED), .val (.ref b31), .val (.ref b33), .val (.int (v0_0 q0 q1 p2 p3 p4 w_LINED w_SCATTERED w_C c_C j32_0 j46_0)), .val (.ref b39), .val (.int (0 : Int32))] []))
                refine OGo.st (fun _ k => XS.aload X39.here hx rfl (hb hby at_202) rfl rfl k) ?_
                show OGo p e below s _ _ _ (T39.setTop (mkF m 204 #[.val (.long q0), .second, .val (.long q1), .second, .val (.int p2), .val (.int p3), .val (.int p4), .val (.int (f1 (1 : Int32) (p2 &&& (2147483647 : Int32)))), .val (.int j32_0), .val (.long j46_0), .second, .val (.ref w_LINED), .val (.ref w_SCATTERED), .val (.ref b31), .val (.ref b33), .val (.int (v0_0 q0 q1 p2 p3 p4 w_LINED w_SCATTERED w_C c_C j32_0 j46_0)), .val (.ref b39), .val (.int (0 : Int32))] [(.ref b31)]))
                refine OGo.st (fun _ k => XS.aload X39.here hx rfl (hb hby at_204) rfl rfl k) ?_
                show OGo p e below s _ _ _ (T39.setTop (mkF m 206 #[.val (.long q0), .second, .val (.long q1), .second, .val (.int p2), .val (.int p3), .val (.int p4), .val (.int (f1 (1 : Int32) (p2 &&& (2147483647 : Int32)))), .val (.int j32_0), .val (.long j46_0), .second, .val (.ref w_LINED), .val (.ref w_SCATTERED), .val (.ref b31), .val (.ref b33), .val (.int (v0_0 q0 q1 p2 p3 p4 w_LINED w_SCATTERED w_C c_C j32_0 j46_0)), .val (.ref b39), .val (.int (0 : Int32))] [(.ref b39), (.ref b31)]))
                obtain ⟨cq40, kq40, q40a, q40b, q40c⟩ := isOf hZ rfl A31_w39
                obtain ⟨_, _, ⟨T40, L40, k40, n40⟩, -, X40, ⟨Lc40, hQ40, l40, y40, z40⟩, st40⟩ := X39.virtualBack hx (y := (⟨"com/example/hazy_set/hazyset/BloomShape", "equals", "(Ljava/lang/Object;)Z"⟩ : MethodName)) (z := (⟨"com/example/hazy_set/hazyset/BloomShape", "equals", "(Ljava/lang/Object;)Z"⟩ : MethodName)) hown (mvT hZ (hw _ (List.mem_of_getElem? (i := 46) rfl))) (mvT hZ (hw _ (List.mem_of_getElem? (i := 47) rfl))) (notFace_of_selects (args := #[]) (mvT hZ (hw _ (List.mem_of_getElem? (i := 49) rfl)))) (mvT hZ (hw _ (List.mem_of_getElem? (i := 49) rfl))) (mvT hZ (hw _ (List.mem_of_getElem? (i := 48) rfl))) (by decide) (backOf (W := 0) (rm6G l Z a0 hw [] b31 b39 T39.heap n0 Z39 A39) hZ (hw _ (List.mem_of_getElem? (i := 50) rfl)) (hw _ (List.mem_of_getElem? (i := 10) rfl)) (by decide) (by decide)) q40a q40c (g := (mkF m 206 #[.val (.long q0), .second, .val (.long q1), .second, .val (.int p2), .val (.int p3), .val (.int p4), .val (.int (f1 (1 : Int32) (p2 &&& (2147483647 : Int32)))), .val (.int j32_0), .val (.long j46_0), .second, .val (.ref w_LINED), .val (.ref w_SCATTERED), .val (.ref b31), .val (.ref b33), .val (.int (v0_0 q0 q1 p2 p3 p4 w_LINED w_SCATTERED w_C c_C j32_0 j46_0)), .val (.ref b39), .val (.int (0 : Int32))] [(.ref b39), (.ref b31)])) rfl (by rw [hml]; rfl) (Steps.refl _) (argsL := [(.ref b39)]) (rest := []) (lenOf pd_0_2 rfl) rfl (by show 2 * 0 + _ ≤ _; exact Nat.le_of_eq rfl) (hb hby at_206) (fun _ _ => ⟨rfl, rfl, (by decide : 3 + 0 ≤ _), (by decide : 15 + 0 ≤ _)⟩)
                dsimp only [Pt.U, Pt.locs, Pt.cells, Pt.slots] at X40 l40 y40 z40 st40 hQ40
                subst l40 y40 z40
                obtain ⟨rfl, N40q, e40⟩ := hQ40
                have hl40 : (f6G) = (0 : Int32) := rfl
                have N40 := Fr.app N39 N40q
                refine OGo.st (fun _ k => st40.trans k) ?_
                show OGo p e below s _ _ _ (T40.setTop (mkF m 209 #[.val (.long q0), .second, .val (.long q1), .second, .val (.int p2), .val (.int p3), .val (.int p4), .val (.int (f1 (1 : Int32) (p2 &&& (2147483647 : Int32)))), .val (.int j32_0), .val (.long j46_0), .second, .val (.ref w_LINED), .val (.ref w_SCATTERED), .val (.ref b31), .val (.ref b33), .val (.int (v0_0 q0 q1 p2 p3 p4 w_LINED w_SCATTERED w_C c_C j32_0 j46_0)), .val (.ref b39), .val (.int (0 : Int32))] [(.int (0 : Int32))]))
                refine OGo.st (fun _ k => XS.iload X40.here hx rfl (hb hby at_209) rfl k) ?_
                show OGo p e below s _ _ _ (T40.setTop (mkF m 211 #[.val (.long q0), .second, .val (.long q1), .second, .val (.int p2), .val (.int p3), .val (.int p4), .val (.int (f1 (1 : Int32) (p2 &&& (2147483647 : Int32)))), .val (.int j32_0), .val (.long j46_0), .second, .val (.ref w_LINED), .val (.ref w_SCATTERED), .val (.ref b31), .val (.ref b33), .val (.int (v0_0 q0 q1 p2 p3 p4 w_LINED w_SCATTERED w_C c_C j32_0 j46_0)), .val (.ref b39), .val (.int (0 : Int32))] [(.int (0 : Int32)), (.int (0 : Int32))]))
                refine OGo.st (fun _ k => XS.icmpNo X40.here hx rfl (hb hby at_211) rfl (teq (by decide : (0 : Int32) = (0 : Int32))).2 k) ?_
                show OGo p e below s _ _ _ (T40.setTop (mkF m 214 #[.val (.long q0), .second, .val (.long q1), .second, .val (.int p2), .val (.int p3), .val (.int p4), .val (.int (f1 (1 : Int32) (p2 &&& (2147483647 : Int32)))), .val (.int j32_0), .val (.long j46_0), .second, .val (.ref w_LINED), .val (.ref w_SCATTERED), .val (.ref b31), .val (.ref b33), .val (.int (v0_0 q0 q1 p2 p3 p4 w_LINED w_SCATTERED w_C c_C j32_0 j46_0)), .val (.ref b39), .val (.int (0 : Int32))] []))
                refine OGo.st (fun _ k => XS.iconst X40.here hx rfl (hb hby at_214) k) ?_
                show OGo p e below s _ _ _ (T40.setTop (mkF m 215 #[.val (.long q0), .second, .val (.long q1), .second, .val (.int p2), .val (.int p3), .val (.int p4), .val (.int (f1 (1 : Int32) (p2 &&& (2147483647 : Int32)))), .val (.int j32_0), .val (.long j46_0), .second, .val (.ref w_LINED), .val (.ref w_SCATTERED), .val (.ref b31), .val (.ref b33), .val (.int (v0_0 q0 q1 p2 p3 p4 w_LINED w_SCATTERED w_C c_C j32_0 j46_0)), .val (.ref b39), .val (.int (0 : Int32))] [(.int (1 : Int32))]))
                refine OGo.st (fun _ k => XS.goto X40.here hx rfl (pc0 := 215) (pc' := 219) rfl (hb hby at_215) (by decide) (by decide) k) ?_
                show OGo p e below s _ _ _ (T40.setTop (mkF m 219 #[.val (.long q0), .second, .val (.long q1), .second, .val (.int p2), .val (.int p3), .val (.int p4), .val (.int (f1 (1 : Int32) (p2 &&& (2147483647 : Int32)))), .val (.int j32_0), .val (.long j46_0), .second, .val (.ref w_LINED), .val (.ref w_SCATTERED), .val (.ref b31), .val (.ref b33), .val (.int (v0_0 q0 q1 p2 p3 p4 w_LINED w_SCATTERED w_C c_C j32_0 j46_0)), .val (.ref b39), .val (.int (0 : Int32))] [(.int (1 : Int32))]))
                exact oretN X40 hx Bd.notSynchronized (t := .boolean) Bd.returns (by simp) (hb hby at_219) (z' := (1 : Int32)) (by decide) e40 ⟨(congrArg (fun z => some (Value.int z)) (show (1 : Int32) = f0 q0 q1 p2 p3 p4 w_LINED w_SCATTERED w_C c_C from Eq.symm (hf46_0.trans (by unfold f0_46; exact (if_neg hc52).trans ((if_pos hc71).trans ((if_neg hc124).trans ((if_neg hc165).trans (if_pos hc180)))))))), N40⟩ (by decide) (by decide)
              · refine OGo.st (fun _ k => XS.icmpYes X34.here hx rfl (pc0 := 180) (pc' := 195) rfl (hb hby at_180) rfl (feq hc180).2 (by decide) (by decide) k) ?_
                show OGo p e below s _ _ _ (T34.setTop (mkF m 195 #[.val (.long q0), .second, .val (.long q1), .second, .val (.int p2), .val (.int p3), .val (.int p4), .val (.int (f1 (1 : Int32) (p2 &&& (2147483647 : Int32)))), .val (.int j32_0), .val (.long j46_0), .second, .val (.ref w_LINED), .val (.ref w_SCATTERED), .val (.ref b31), .val (.ref b33), .val (.int (v0_0 q0 q1 p2 p3 p4 w_LINED w_SCATTERED w_C c_C j32_0 j46_0)), .unset, .unset] []))
                refine OGo.st (fun _ k => XS.aload X34.here hx rfl (hb hby at_195) rfl rfl k) ?_
                show OGo p e below s _ _ _ (T34.setTop (mkF m 197 #[.val (.long q0), .second, .val (.long q1), .second, .val (.int p2), .val (.int p3), .val (.int p4), .val (.int (f1 (1 : Int32) (p2 &&& (2147483647 : Int32)))), .val (.int j32_0), .val (.long j46_0), .second, .val (.ref w_LINED), .val (.ref w_SCATTERED), .val (.ref b31), .val (.ref b33), .val (.int (v0_0 q0 q1 p2 p3 p4 w_LINED w_SCATTERED w_C c_C j32_0 j46_0)), .unset, .unset] [(.ref b31)]))
                refine OGo.st (fun _ k => XS.astore X34.here hx rfl (hb hby at_197) rfl rfl (l' := #[.val (.long q0), .second, .val (.long q1), .second, .val (.int p2), .val (.int p3), .val (.int p4), .val (.int (f1 (1 : Int32) (p2 &&& (2147483647 : Int32)))), .val (.int j32_0), .val (.long j46_0), .second, .val (.ref w_LINED), .val (.ref w_SCATTERED), .val (.ref b31), .val (.ref b33), .val (.int (v0_0 q0 q1 p2 p3 p4 w_LINED w_SCATTERED w_C c_C j32_0 j46_0)), .val (.ref b31), .unset]) rfl k) ?_
                show OGo p e below s _ _ _ (T34.setTop (mkF m 199 #[.val (.long q0), .second, .val (.long q1), .second, .val (.int p2), .val (.int p3), .val (.int p4), .val (.int (f1 (1 : Int32) (p2 &&& (2147483647 : Int32)))), .val (.int j32_0), .val (.long j46_0), .second, .val (.ref w_LINED), .val (.ref w_SCATTERED), .val (.ref b31), .val (.ref b33), .val (.int (v0_0 q0 q1 p2 p3 p4 w_LINED w_SCATTERED w_C c_C j32_0 j46_0)), .val (.ref b31), .unset] []))
                refine OGo.st (fun _ k => XS.iconst X34.here hx rfl (hb hby at_199) k) ?_
                show OGo p e below s _ _ _ (T34.setTop (mkF m 200 #[.val (.long q0), .second, .val (.long q1), .second, .val (.int p2), .val (.int p3), .val (.int p4), .val (.int (f1 (1 : Int32) (p2 &&& (2147483647 : Int32)))), .val (.int j32_0), .val (.long j46_0), .second, .val (.ref w_LINED), .val (.ref w_SCATTERED), .val (.ref b31), .val (.ref b33), .val (.int (v0_0 q0 q1 p2 p3 p4 w_LINED w_SCATTERED w_C c_C j32_0 j46_0)), .val (.ref b31), .unset] [(.int (1 : Int32))]))
                refine OGo.st (fun _ k => XS.istore X34.here hx rfl (hb hby at_200) rfl (l' := #[.val (.long q0), .second, .val (.long q1), .second, .val (.int p2), .val (.int p3), .val (.int p4), .val (.int (f1 (1 : Int32) (p2 &&& (2147483647 : Int32)))), .val (.int j32_0), .val (.long j46_0), .second, .val (.ref w_LINED), .val (.ref w_SCATTERED), .val (.ref b31), .val (.ref b33), .val (.int (v0_0 q0 q1 p2 p3 p4 w_LINED w_SCATTERED w_C c_C j32_0 j46_0)), .val (.ref b31), .val (.int (1 : Int32))]) rfl k) ?_
                show OGo p e below s _ _ _ (T34.setTop (mkF m 202 #[.val (.long q0), .second, .val (.long q1), .second, .val (.int p2), .val (.int p3), .val (.int p4), .val (.int (f1 (1 : Int32) (p2 &&& (2147483647 : Int32)))), .val (.int j32_0), .val (.long j46_0), .second, .val (.ref w_LINED), .val (.ref w_SCATTERED), .val (.ref b31), .val (.ref b33), .val (.int (v0_0 q0 q1 p2 p3 p4 w_LINED w_SCATTERED w_C c_C j32_0 j46_0)), .val (.ref b31), .val (.int (1 : Int32))] []))
                refine OGo.st (fun _ k => XS.aload X34.here hx rfl (hb hby at_202) rfl rfl k) ?_
                show OGo p e below s _ _ _ (T34.setTop (mkF m 204 #[.val (.long q0), .second, .val (.long q1), .second, .val (.int p2), .val (.int p3), .val (.int p4), .val (.int (f1 (1 : Int32) (p2 &&& (2147483647 : Int32)))), .val (.int j32_0), .val (.long j46_0), .second, .val (.ref w_LINED), .val (.ref w_SCATTERED), .val (.ref b31), .val (.ref b33), .val (.int (v0_0 q0 q1 p2 p3 p4 w_LINED w_SCATTERED w_C c_C j32_0 j46_0)), .val (.ref b31), .val (.int (1 : Int32))] [(.ref b31)]))
                refine OGo.st (fun _ k => XS.aload X34.here hx rfl (hb hby at_204) rfl rfl k) ?_
                show OGo p e below s _ _ _ (T34.setTop (mkF m 206 #[.val (.long q0), .second, .val (.long q1), .second, .val (.int p2), .val (.int p3), .val (.int p4), .val (.int (f1 (1 : Int32) (p2 &&& (2147483647 : Int32)))), .val (.int j32_0), .val (.long j46_0), .second, .val (.ref w_LINED), .val (.ref w_SCATTERED), .val (.ref b31), .val (.ref b33), .val (.int (v0_0 q0 q1 p2 p3 p4 w_LINED w_SCATTERED w_C c_C j32_0 j46_0)), .val (.ref b31), .val (.int (1 : Int32))] [(.ref b31), (.ref b31)]))
                obtain ⟨cq41, kq41, q41a, q41b, q41c⟩ := isOf hZ rfl A31_w34
                obtain ⟨_, _, ⟨T41, L41, k41, n41⟩, -, X41, ⟨Lc41, hQ41, l41, y41, z41⟩, st41⟩ := X34.virtualBack hx (y := (⟨"com/example/hazy_set/hazyset/BloomShape", "equals", "(Ljava/lang/Object;)Z"⟩ : MethodName)) (z := (⟨"com/example/hazy_set/hazyset/BloomShape", "equals", "(Ljava/lang/Object;)Z"⟩ : MethodName)) hown (mvT hZ (hw _ (List.mem_of_getElem? (i := 46) rfl))) (mvT hZ (hw _ (List.mem_of_getElem? (i := 47) rfl))) (notFace_of_selects (args := #[]) (mvT hZ (hw _ (List.mem_of_getElem? (i := 49) rfl)))) (mvT hZ (hw _ (List.mem_of_getElem? (i := 49) rfl))) (mvT hZ (hw _ (List.mem_of_getElem? (i := 48) rfl))) (by decide) (backOf (W := 0) (rm6B l Z a0 hw [] b31 b31 q0 (f1 (1 : Int32) (p2 &&& (2147483647 : Int32))) w_LINED q0 (f1 (1 : Int32) (p2 &&& (2147483647 : Int32))) w_LINED T34.heap n0 Z34 A31_w34 G32_0_w34 G32_1_w34 G32_2_w34 A31_w34 G32_0_w34 G32_1_w34 G32_2_w34) hZ (hw _ (List.mem_of_getElem? (i := 50) rfl)) (hw _ (List.mem_of_getElem? (i := 10) rfl)) (by decide) (by decide)) q41a q41c (g := (mkF m 206 #[.val (.long q0), .second, .val (.long q1), .second, .val (.int p2), .val (.int p3), .val (.int p4), .val (.int (f1 (1 : Int32) (p2 &&& (2147483647 : Int32)))), .val (.int j32_0), .val (.long j46_0), .second, .val (.ref w_LINED), .val (.ref w_SCATTERED), .val (.ref b31), .val (.ref b33), .val (.int (v0_0 q0 q1 p2 p3 p4 w_LINED w_SCATTERED w_C c_C j32_0 j46_0)), .val (.ref b31), .val (.int (1 : Int32))] [(.ref b31), (.ref b31)])) rfl (by rw [hml]; rfl) (Steps.refl _) (argsL := [(.ref b31)]) (rest := []) (lenOf pd_0_2 rfl) rfl (by show 2 * 0 + _ ≤ _; exact Nat.le_of_eq rfl) (hb hby at_206) (fun _ _ => ⟨rfl, rfl, (by decide : 2 + 0 ≤ _), (by decide : 14 + 0 ≤ _)⟩)
                dsimp only [Pt.U, Pt.locs, Pt.cells, Pt.slots] at X41 l41 y41 z41 st41 hQ41
                subst l41 y41 z41
                obtain ⟨rfl, N41q, e41⟩ := hQ41
                have N41 := Fr.app N34 N41q
                refine OGo.st (fun _ k => st41.trans k) ?_
                show OGo p e below s _ _ _ (T41.setTop (mkF m 209 #[.val (.long q0), .second, .val (.long q1), .second, .val (.int p2), .val (.int p3), .val (.int p4), .val (.int (f1 (1 : Int32) (p2 &&& (2147483647 : Int32)))), .val (.int j32_0), .val (.long j46_0), .second, .val (.ref w_LINED), .val (.ref w_SCATTERED), .val (.ref b31), .val (.ref b33), .val (.int (v0_0 q0 q1 p2 p3 p4 w_LINED w_SCATTERED w_C c_C j32_0 j46_0)), .val (.ref b31), .val (.int (1 : Int32))] [(.int (f6B q0 (f1 (1 : Int32) (p2 &&& (2147483647 : Int32))) w_LINED q0 (f1 (1 : Int32) (p2 &&& (2147483647 : Int32))) w_LINED))]))
                refine OGo.st (fun _ k => XS.iload X41.here hx rfl (hb hby at_209) rfl k) ?_
                show OGo p e below s _ _ _ (T41.setTop (mkF m 211 #[.val (.long q0), .second, .val (.long q1), .second, .val (.int p2), .val (.int p3), .val (.int p4), .val (.int (f1 (1 : Int32) (p2 &&& (2147483647 : Int32)))), .val (.int j32_0), .val (.long j46_0), .second, .val (.ref w_LINED), .val (.ref w_SCATTERED), .val (.ref b31), .val (.ref b33), .val (.int (v0_0 q0 q1 p2 p3 p4 w_LINED w_SCATTERED w_C c_C j32_0 j46_0)), .val (.ref b31), .val (.int (1 : Int32))] [(.int (1 : Int32)), (.int (f6B q0 (f1 (1 : Int32) (p2 &&& (2147483647 : Int32))) w_LINED q0 (f1 (1 : Int32) (p2 &&& (2147483647 : Int32))) w_LINED))]))
                by_cases hc211 : (f6B q0 (f1 (1 : Int32) (p2 &&& (2147483647 : Int32))) w_LINED q0 (f1 (1 : Int32) (p2 &&& (2147483647 : Int32))) w_LINED) = (1 : Int32)
                · refine OGo.st (fun _ k => XS.icmpNo X41.here hx rfl (hb hby at_211) rfl (teq hc211).2 k) ?_
                  show OGo p e below s _ _ _ (T41.setTop (mkF m 214 #[.val (.long q0), .second, .val (.long q1), .second, .val (.int p2), .val (.int p3), .val (.int p4), .val (.int (f1 (1 : Int32) (p2 &&& (2147483647 : Int32)))), .val (.int j32_0), .val (.long j46_0), .second, .val (.ref w_LINED), .val (.ref w_SCATTERED), .val (.ref b31), .val (.ref b33), .val (.int (v0_0 q0 q1 p2 p3 p4 w_LINED w_SCATTERED w_C c_C j32_0 j46_0)), .val (.ref b31), .val (.int (1 : Int32))] []))
                  refine OGo.st (fun _ k => XS.iconst X41.here hx rfl (hb hby at_214) k) ?_
                  show OGo p e below s _ _ _ (T41.setTop (mkF m 215 #[.val (.long q0), .second, .val (.long q1), .second, .val (.int p2), .val (.int p3), .val (.int p4), .val (.int (f1 (1 : Int32) (p2 &&& (2147483647 : Int32)))), .val (.int j32_0), .val (.long j46_0), .second, .val (.ref w_LINED), .val (.ref w_SCATTERED), .val (.ref b31), .val (.ref b33), .val (.int (v0_0 q0 q1 p2 p3 p4 w_LINED w_SCATTERED w_C c_C j32_0 j46_0)), .val (.ref b31), .val (.int (1 : Int32))] [(.int (1 : Int32))]))
                  refine OGo.st (fun _ k => XS.goto X41.here hx rfl (pc0 := 215) (pc' := 219) rfl (hb hby at_215) (by decide) (by decide) k) ?_
                  show OGo p e below s _ _ _ (T41.setTop (mkF m 219 #[.val (.long q0), .second, .val (.long q1), .second, .val (.int p2), .val (.int p3), .val (.int p4), .val (.int (f1 (1 : Int32) (p2 &&& (2147483647 : Int32)))), .val (.int j32_0), .val (.long j46_0), .second, .val (.ref w_LINED), .val (.ref w_SCATTERED), .val (.ref b31), .val (.ref b33), .val (.int (v0_0 q0 q1 p2 p3 p4 w_LINED w_SCATTERED w_C c_C j32_0 j46_0)), .val (.ref b31), .val (.int (1 : Int32))] [(.int (1 : Int32))]))
                  exact oretN X41 hx Bd.notSynchronized (t := .boolean) Bd.returns (by simp) (hb hby at_219) (z' := (1 : Int32)) (by decide) e41 ⟨(congrArg (fun z => some (Value.int z)) (show (1 : Int32) = f0 q0 q1 p2 p3 p4 w_LINED w_SCATTERED w_C c_C from Eq.symm (hf46_0.trans (by unfold f0_46; exact (if_neg hc52).trans ((if_pos hc71).trans ((if_neg hc124).trans ((if_neg hc165).trans ((if_neg hc180).trans (if_pos hc211))))))))), N41⟩ (by decide) (by decide)
                · refine OGo.st (fun _ k => XS.icmpYes X41.here hx rfl (pc0 := 211) (pc' := 218) rfl (hb hby at_211) rfl (feq hc211).2 (by decide) (by decide) k) ?_
                  show OGo p e below s _ _ _ (T41.setTop (mkF m 218 #[.val (.long q0), .second, .val (.long q1), .second, .val (.int p2), .val (.int p3), .val (.int p4), .val (.int (f1 (1 : Int32) (p2 &&& (2147483647 : Int32)))), .val (.int j32_0), .val (.long j46_0), .second, .val (.ref w_LINED), .val (.ref w_SCATTERED), .val (.ref b31), .val (.ref b33), .val (.int (v0_0 q0 q1 p2 p3 p4 w_LINED w_SCATTERED w_C c_C j32_0 j46_0)), .val (.ref b31), .val (.int (1 : Int32))] []))
                  refine OGo.st (fun _ k => XS.iconst X41.here hx rfl (hb hby at_218) k) ?_
                  show OGo p e below s _ _ _ (T41.setTop (mkF m 219 #[.val (.long q0), .second, .val (.long q1), .second, .val (.int p2), .val (.int p3), .val (.int p4), .val (.int (f1 (1 : Int32) (p2 &&& (2147483647 : Int32)))), .val (.int j32_0), .val (.long j46_0), .second, .val (.ref w_LINED), .val (.ref w_SCATTERED), .val (.ref b31), .val (.ref b33), .val (.int (v0_0 q0 q1 p2 p3 p4 w_LINED w_SCATTERED w_C c_C j32_0 j46_0)), .val (.ref b31), .val (.int (1 : Int32))] [(.int (0 : Int32))]))
                  exact oretN X41 hx Bd.notSynchronized (t := .boolean) Bd.returns (by simp) (hb hby at_219) (z' := (0 : Int32)) (by decide) e41 ⟨(congrArg (fun z => some (Value.int z)) (show (0 : Int32) = f0 q0 q1 p2 p3 p4 w_LINED w_SCATTERED w_C c_C from Eq.symm (hf46_0.trans (by unfold f0_46; exact (if_neg hc52).trans ((if_pos hc71).trans ((if_neg hc124).trans ((if_neg hc165).trans ((if_neg hc180).trans (if_neg hc211))))))))), N41⟩ (by decide) (by decide)
        · refine OGo.st (fun _ k => XS.ifNo X29.here hx rfl (hb hby at_71) rfl ((if0 _ _).trans (feq hc71).1) k) ?_
          show OGo p e below s _ _ _ (T29.setTop (mkF m 74 #[.val (.long q0), .second, .val (.long q1), .second, .val (.int p2), .val (.int p3), .val (.int p4), .val (.int (f1 (1 : Int32) (p2 &&& (2147483647 : Int32)))), .val (.int j32_0), .val (.long j46_0), .second, .val (.ref w_LINED), .unset, .unset, .unset, .unset, .unset, .unset] []))
          obtain ⟨T42, X42, e42, st42⟩ := getS2 X29 hx hZ hown (host := "") (Or.inl (hw _ (List.mem_of_getElem? (i := 53) rfl))) Via.refl e29 S_LINED (g := (mkF m 74 #[.val (.long q0), .second, .val (.long q1), .second, .val (.int p2), .val (.int p3), .val (.int p4), .val (.int (f1 (1 : Int32) (p2 &&& (2147483647 : Int32)))), .val (.int j32_0), .val (.long j46_0), .second, .val (.ref w_LINED), .unset, .unset, .unset, .unset, .unset, .unset] [])) rfl (hb hby at_74)
          refine OGo.st st42 ?_
          show OGo p e below s _ _ _ (T42.setTop (mkF m 77 #[.val (.long q0), .second, .val (.long q1), .second, .val (.int p2), .val (.int p3), .val (.int p4), .val (.int (f1 (1 : Int32) (p2 &&& (2147483647 : Int32)))), .val (.int j32_0), .val (.long j46_0), .second, .val (.ref w_LINED), .unset, .unset, .unset, .unset, .unset, .unset] [(.ref w_LINED)]))
          refine OGo.st (fun _ k => XS.goto X42.here hx rfl (pc0 := 77) (pc' := 83) rfl (hb hby at_77) (by decide) (by decide) k) ?_
          show OGo p e below s _ _ _ (T42.setTop (mkF m 83 #[.val (.long q0), .second, .val (.long q1), .second, .val (.int p2), .val (.int p3), .val (.int p4), .val (.int (f1 (1 : Int32) (p2 &&& (2147483647 : Int32)))), .val (.int j32_0), .val (.long j46_0), .second, .val (.ref w_LINED), .unset, .unset, .unset, .unset, .unset, .unset] [(.ref w_LINED)]))
          refine OGo.st (fun _ k => XS.astore X42.here hx rfl (hb hby at_83) rfl rfl (l' := #[.val (.long q0), .second, .val (.long q1), .second, .val (.int p2), .val (.int p3), .val (.int p4), .val (.int (f1 (1 : Int32) (p2 &&& (2147483647 : Int32)))), .val (.int j32_0), .val (.long j46_0), .second, .val (.ref w_LINED), .val (.ref w_LINED), .unset, .unset, .unset, .unset, .unset]) rfl k) ?_
          show OGo p e below s _ _ _ (T42.setTop (mkF m 85 #[.val (.long q0), .second, .val (.long q1), .second, .val (.int p2), .val (.int p3), .val (.int p4), .val (.int (f1 (1 : Int32) (p2 &&& (2147483647 : Int32)))), .val (.int j32_0), .val (.long j46_0), .second, .val (.ref w_LINED), .val (.ref w_LINED), .unset, .unset, .unset, .unset, .unset] []))
          obtain ⟨T43, h43, X43, e43, E43, A43, D43, U43, st43⟩ := newO X42 hx hZ hown (hw _ (List.mem_of_getElem? (i := 8) rfl)) (hw _ (List.mem_of_getElem? (i := 9) rfl)) (hw _ (List.mem_of_getElem? (i := 10) rfl)) e42 (g := (mkF m 85 #[.val (.long q0), .second, .val (.long q1), .second, .val (.int p2), .val (.int p3), .val (.int p4), .val (.int (f1 (1 : Int32) (p2 &&& (2147483647 : Int32)))), .val (.int j32_0), .val (.long j46_0), .second, .val (.ref w_LINED), .val (.ref w_LINED), .unset, .unset, .unset, .unset, .unset] [])) rfl (hb hby at_85) (by decide) (by decide)
          obtain ⟨b43, g43⟩ : ∃ z, z = h0.size := ⟨_, rfl⟩
          rw [← g43] at A43 D43 U43 st43
          refine OGo.st st43 ?_
          have S_LINED_w43 := S_LINED.ext E43
          have S_SCATTERED_w43 := S_SCATTERED.ext E43
          have E_LINED_w43 := E_LINED.ext E43
          have ne_w_LINED_b43 : w_LINED ≠ b43 := Nat.ne_of_lt (Nat.lt_of_lt_of_le E_LINED.lt (Nat.le_of_eq g43.symm))
          have E_SCATTERED_w43 := E_SCATTERED.ext E43
          have ne_w_SCATTERED_b43 : w_SCATTERED ≠ b43 := Nat.ne_of_lt (Nat.lt_of_lt_of_le E_SCATTERED.lt (Nat.le_of_eq g43.symm))
          have O_LINED_lineShift_w43 := O_LINED_lineShift.ext E43
          have O_LINED_ordinal_w43 := O_LINED_ordinal.ext E43
          have O_SCATTERED_lineShift_w43 := O_SCATTERED_lineShift.ext E43
          have O_SCATTERED_ordinal_w43 := O_SCATTERED_ordinal.ext E43
          have S_C_w43 := S_C.ext E43
          have g_b43 : n0 ≤ b43 := Nat.le_trans Z0 (Nat.le_of_eq g43.symm)
          have sz_b43 : h0.size ≤ b43 := Nat.le_trans (Keep.refl h0 []).1 (Nat.le_of_eq g43.symm)
          have K43 : Keep h0 h43 [] := (Keep.refl h0 _).ext E43
          have Z43 : n0 ≤ h43.size := Nat.le_trans Z0 E43.1
          have F_bitCount_b43 : Fld Z h43 b43 "com/example/hazy_set/hazyset/BloomShape" "bitCount" "J" (.long (0 : Int64)) := D43 (Or.inr (hw _ (List.mem_of_getElem? (i := 18) rfl))) (ty := .long) (by decide)
          have F_hashCount_b43 : Fld Z h43 b43 "com/example/hazy_set/hazyset/BloomShape" "hashCount" "I" (.int (0 : Int32)) := D43 (Or.inr (hw _ (List.mem_of_getElem? (i := 20) rfl))) (ty := .int) (by decide)
          have F_layout_b43 : Fld Z h43 b43 "com/example/hazy_set/hazyset/BloomShape" "layout" "Lcom/example/hazy_set/hazyset/BloomShape$Layout;" .null := D43 (Or.inr (hw _ (List.mem_of_getElem? (i := 22) rfl))) (ty := (.object "com/example/hazy_set/hazyset/BloomShape$Layout")) (by decide)
          have F_lineCount_b43 : Fld Z h43 b43 "com/example/hazy_set/hazyset/BloomShape" "lineCount" "J" (.long (0 : Int64)) := D43 (Or.inr (hw _ (List.mem_of_getElem? (i := 26) rfl))) (ty := .long) (by decide)
          have F_linesPerElement_b43 : Fld Z h43 b43 "com/example/hazy_set/hazyset/BloomShape" "linesPerElement" "I" (.int (0 : Int32)) := D43 (Or.inr (hw _ (List.mem_of_getElem? (i := 41) rfl))) (ty := .int) (by decide)
          have F_bitsPerLine_b43 : Fld Z h43 b43 "com/example/hazy_set/hazyset/BloomShape" "bitsPerLine" "I" (.int (0 : Int32)) := D43 (Or.inr (hw _ (List.mem_of_getElem? (i := 43) rfl))) (ty := .int) (by decide)
          have F_longerLines_b43 : Fld Z h43 b43 "com/example/hazy_set/hazyset/BloomShape" "longerLines" "I" (.int (0 : Int32)) := D43 (Or.inr (hw _ (List.mem_of_getElem? (i := 45) rfl))) (ty := .int) (by decide)
          show OGo p e below s _ _ _ (T43.setTop (mkF m 88 #[.val (.long q0), .second, .val (.long q1), .second, .val (.int p2), .val (.int p3), .val (.int p4), .val (.int (f1 (1 : Int32) (p2 &&& (2147483647 : Int32)))), .val (.int j32_0), .val (.long j46_0), .second, .val (.ref w_LINED), .val (.ref w_LINED), .unset, .unset, .unset, .unset, .unset] [(.ref b43)]))
          refine OGo.st (fun _ k => XS.dup X43.here hx rfl (hb hby at_88) rfl rfl k) ?_
          show OGo p e below s _ _ _ (T43.setTop (mkF m 89 #[.val (.long q0), .second, .val (.long q1), .second, .val (.int p2), .val (.int p3), .val (.int p4), .val (.int (f1 (1 : Int32) (p2 &&& (2147483647 : Int32)))), .val (.int j32_0), .val (.long j46_0), .second, .val (.ref w_LINED), .val (.ref w_LINED), .unset, .unset, .unset, .unset, .unset] [(.ref b43), (.ref b43)]))
          refine OGo.st (fun _ k => XS.lloadN X43.here hx rfl (hb hby at_89) rfl k) ?_
          show OGo p e below s _ _ _ (T43.setTop (mkF m 90 #[.val (.long q0), .second, .val (.long q1), .second, .val (.int p2), .val (.int p3), .val (.int p4), .val (.int (f1 (1 : Int32) (p2 &&& (2147483647 : Int32)))), .val (.int j32_0), .val (.long j46_0), .second, .val (.ref w_LINED), .val (.ref w_LINED), .unset, .unset, .unset, .unset, .unset] [(.long q0), (.ref b43), (.ref b43)]))
          refine OGo.st (fun _ k => XS.iload X43.here hx rfl (hb hby at_90) rfl k) ?_
          show OGo p e below s _ _ _ (T43.setTop (mkF m 92 #[.val (.long q0), .second, .val (.long q1), .second, .val (.int p2), .val (.int p3), .val (.int p4), .val (.int (f1 (1 : Int32) (p2 &&& (2147483647 : Int32)))), .val (.int j32_0), .val (.long j46_0), .second, .val (.ref w_LINED), .val (.ref w_LINED), .unset, .unset, .unset, .unset, .unset] [(.int (f1 (1 : Int32) (p2 &&& (2147483647 : Int32)))), (.long q0), (.ref b43), (.ref b43)]))
          refine OGo.st (fun _ k => XS.aload X43.here hx rfl (hb hby at_92) rfl rfl k) ?_
          show OGo p e below s _ _ _ (T43.setTop (mkF m 94 #[.val (.long q0), .second, .val (.long q1), .second, .val (.int p2), .val (.int p3), .val (.int p4), .val (.int (f1 (1 : Int32) (p2 &&& (2147483647 : Int32)))), .val (.int j32_0), .val (.long j46_0), .second, .val (.ref w_LINED), .val (.ref w_LINED), .unset, .unset, .unset, .unset, .unset] [(.ref w_LINED), (.int (f1 (1 : Int32) (p2 &&& (2147483647 : Int32)))), (.long q0), (.ref b43), (.ref b43)]))
          obtain ⟨_, _, ⟨T44, L44, k44, n44⟩, -, X44, ⟨Lc44, hQ44, l44, y44, z44⟩, st44⟩ := X43.specialBack hx (y := (⟨"com/example/hazy_set/hazyset/BloomShape", "<init>", "(JILcom/example/hazy_set/hazyset/BloomShape$Layout;)V"⟩ : MethodName)) rfl hown (mvT hZ (hw _ (List.mem_of_getElem? (i := 11) rfl))) (mvT hZ (hw _ (List.mem_of_getElem? (i := 12) rfl))) (mvT hZ (hw _ (List.mem_of_getElem? (i := 13) rfl))) (by decide) (backOf (W := 1) (rm2L l Z a0 hw [] b43 q0 (f1 (1 : Int32) (p2 &&& (2147483647 : Int32))) w_LINED h43 n0 Z43 A43 F_bitCount_b43 F_hashCount_b43 F_layout_b43 F_lineCount_b43 F_linesPerElement_b43 F_bitsPerLine_b43 F_longerLines_b43 E_LINED_w43 O_LINED_lineShift_w43 O_LINED_ordinal_w43 g_b43 ne_w_LINED_b43 (own_pos _)) hZ (hw _ (List.mem_of_getElem? (i := 13) rfl)) (hw _ (List.mem_of_getElem? (i := 10) rfl)) (by decide) (by decide)) (g := (mkF m 94 #[.val (.long q0), .second, .val (.long q1), .second, .val (.int p2), .val (.int p3), .val (.int p4), .val (.int (f1 (1 : Int32) (p2 &&& (2147483647 : Int32)))), .val (.int j32_0), .val (.long j46_0), .second, .val (.ref w_LINED), .val (.ref w_LINED), .unset, .unset, .unset, .unset, .unset] [(.ref w_LINED), (.int (f1 (1 : Int32) (p2 &&& (2147483647 : Int32)))), (.long q0), (.ref b43), (.ref b43)])) rfl (by rw [hml]; rfl) (Steps.refl _) (a := b43) (argsL := [(.long q0), (.int (f1 (1 : Int32) (p2 &&& (2147483647 : Int32)))), (.ref w_LINED)]) (rest := [(.ref b43)]) (lenOf pd_0_1 rfl) rfl (by show 2 * 0 + _ ≤ _; exact Nat.le_of_eq rfl) (hb hby at_94) (fun _ _ => ⟨rfl, e43, (by decide : 1 + 0 ≤ _), (by decide : 7 + 0 ≤ _)⟩)
          dsimp only [Pt.U, Pt.locs, Pt.cells, Pt.slots] at X44 l44 y44 z44 st44 hQ44
          subst l44 y44 z44
          obtain ⟨rfl, N44q, Kc44, G44_0, G44_1, G44_2⟩ := hQ44
          have S_LINED_w44 := osta_keep S_LINED_w43 Kc44 (osta_exa A43 (fun _ _ _ _ => nin0))
          have S_SCATTERED_w44 := osta_keep S_SCATTERED_w43 Kc44 (osta_exa A43 (fun _ _ _ _ => nin0))
          have E_LINED_w44 := E_LINED_w43.keep Kc44
          have E_SCATTERED_w44 := E_SCATTERED_w43.keep Kc44
          have O_LINED_lineShift_w44 := O_LINED_lineShift_w43.keep Kc44 (ninS ne_w_LINED_b43 nin0)
          have O_LINED_ordinal_w44 := O_LINED_ordinal_w43.keep Kc44 (ninS ne_w_LINED_b43 nin0)
          have O_SCATTERED_lineShift_w44 := O_SCATTERED_lineShift_w43.keep Kc44 (ninS ne_w_SCATTERED_b43 nin0)
          have O_SCATTERED_ordinal_w44 := O_SCATTERED_ordinal_w43.keep Kc44 (ninS ne_w_SCATTERED_b43 nin0)
          have S_C_w44 := osta_keep S_C_w43 Kc44 (osta_exa A43 (fun _ _ _ _ => nin0))
          have A43_w44 := A43.keep Kc44
          have K44 : Keep h0 T44.heap [] := (K43).trans Kc44 (allS (Or.inr sz_b43) all0)
          have Z44 : n0 ≤ T44.heap.size := Nat.le_trans Z43 Kc44.1
          have N44 := Fr.app N2 N44q
          refine OGo.st (fun _ k => st44.trans k) ?_
          show OGo p e below s _ _ _ (T44.setTop (mkF m 97 #[.val (.long q0), .second, .val (.long q1), .second, .val (.int p2), .val (.int p3), .val (.int p4), .val (.int (f1 (1 : Int32) (p2 &&& (2147483647 : Int32)))), .val (.int j32_0), .val (.long j46_0), .second, .val (.ref w_LINED), .val (.ref w_LINED), .unset, .unset, .unset, .unset, .unset] [(.ref b43)]))
          refine OGo.st (fun _ k => XS.astore X44.here hx rfl (hb hby at_97) rfl rfl (l' := #[.val (.long q0), .second, .val (.long q1), .second, .val (.int p2), .val (.int p3), .val (.int p4), .val (.int (f1 (1 : Int32) (p2 &&& (2147483647 : Int32)))), .val (.int j32_0), .val (.long j46_0), .second, .val (.ref w_LINED), .val (.ref w_LINED), .val (.ref b43), .unset, .unset, .unset, .unset]) rfl k) ?_
          show OGo p e below s _ _ _ (T44.setTop (mkF m 99 #[.val (.long q0), .second, .val (.long q1), .second, .val (.int p2), .val (.int p3), .val (.int p4), .val (.int (f1 (1 : Int32) (p2 &&& (2147483647 : Int32)))), .val (.int j32_0), .val (.long j46_0), .second, .val (.ref w_LINED), .val (.ref w_LINED), .val (.ref b43), .unset, .unset, .unset, .unset] []))
          obtain ⟨T45, h45, X45, e45, E45, A45, D45, U45, st45⟩ := newO X44 hx hZ hown (hw _ (List.mem_of_getElem? (i := 8) rfl)) (hw _ (List.mem_of_getElem? (i := 9) rfl)) (hw _ (List.mem_of_getElem? (i := 10) rfl)) rfl (g := (mkF m 99 #[.val (.long q0), .second, .val (.long q1), .second, .val (.int p2), .val (.int p3), .val (.int p4), .val (.int (f1 (1 : Int32) (p2 &&& (2147483647 : Int32)))), .val (.int j32_0), .val (.long j46_0), .second, .val (.ref w_LINED), .val (.ref w_LINED), .val (.ref b43), .unset, .unset, .unset, .unset] [])) rfl (hb hby at_99) (by decide) (by decide)
          obtain ⟨b45, g45⟩ : ∃ z, z = T44.heap.size := ⟨_, rfl⟩
          rw [← g45] at A45 D45 U45 st45
          refine OGo.st st45 ?_
          have S_LINED_w45 := S_LINED_w44.ext E45
          have S_SCATTERED_w45 := S_SCATTERED_w44.ext E45
          have E_LINED_w45 := E_LINED_w44.ext E45
          have ne_w_LINED_b45 : w_LINED ≠ b45 := Nat.ne_of_lt (Nat.lt_of_lt_of_le E_LINED_w44.lt (Nat.le_of_eq g45.symm))
          have E_SCATTERED_w45 := E_SCATTERED_w44.ext E45
          have ne_w_SCATTERED_b45 : w_SCATTERED ≠ b45 := Nat.ne_of_lt (Nat.lt_of_lt_of_le E_SCATTERED_w44.lt (Nat.le_of_eq g45.symm))
          have O_LINED_lineShift_w45 := O_LINED_lineShift_w44.ext E45
          have O_LINED_ordinal_w45 := O_LINED_ordinal_w44.ext E45
          have O_SCATTERED_lineShift_w45 := O_SCATTERED_lineShift_w44.ext E45
          have O_SCATTERED_ordinal_w45 := O_SCATTERED_ordinal_w44.ext E45
          have S_C_w45 := S_C_w44.ext E45
          have A43_w45 := A43_w44.ext E45
          have ne_b43_b45 : b43 ≠ b45 := Nat.ne_of_lt (Nat.lt_of_lt_of_le A43_w44.lt (Nat.le_of_eq g45.symm))
          have G44_0_w45 := G44_0.ext E45
          have G44_1_w45 := G44_1.ext E45
          have G44_2_w45 := G44_2.ext E45
          have g_b45 : n0 ≤ b45 := Nat.le_trans Z44 (Nat.le_of_eq g45.symm)
          have sz_b45 : h0.size ≤ b45 := Nat.le_trans (K44).1 (Nat.le_of_eq g45.symm)
          have K45 : Keep h0 h45 [] := (K44).ext E45
          have Z45 : n0 ≤ h45.size := Nat.le_trans Z44 E45.1
          have F_bitCount_b45 : Fld Z h45 b45 "com/example/hazy_set/hazyset/BloomShape" "bitCount" "J" (.long (0 : Int64)) := D45 (Or.inr (hw _ (List.mem_of_getElem? (i := 18) rfl))) (ty := .long) (by decide)
          have F_hashCount_b45 : Fld Z h45 b45 "com/example/hazy_set/hazyset/BloomShape" "hashCount" "I" (.int (0 : Int32)) := D45 (Or.inr (hw _ (List.mem_of_getElem? (i := 20) rfl))) (ty := .int) (by decide)
          have F_layout_b45 : Fld Z h45 b45 "com/example/hazy_set/hazyset/BloomShape" "layout" "Lcom/example/hazy_set/hazyset/BloomShape$Layout;" .null := D45 (Or.inr (hw _ (List.mem_of_getElem? (i := 22) rfl))) (ty := (.object "com/example/hazy_set/hazyset/BloomShape$Layout")) (by decide)
          have F_lineCount_b45 : Fld Z h45 b45 "com/example/hazy_set/hazyset/BloomShape" "lineCount" "J" (.long (0 : Int64)) := D45 (Or.inr (hw _ (List.mem_of_getElem? (i := 26) rfl))) (ty := .long) (by decide)
          have F_linesPerElement_b45 : Fld Z h45 b45 "com/example/hazy_set/hazyset/BloomShape" "linesPerElement" "I" (.int (0 : Int32)) := D45 (Or.inr (hw _ (List.mem_of_getElem? (i := 41) rfl))) (ty := .int) (by decide)
          have F_bitsPerLine_b45 : Fld Z h45 b45 "com/example/hazy_set/hazyset/BloomShape" "bitsPerLine" "I" (.int (0 : Int32)) := D45 (Or.inr (hw _ (List.mem_of_getElem? (i := 43) rfl))) (ty := .int) (by decide)
          have F_longerLines_b45 : Fld Z h45 b45 "com/example/hazy_set/hazyset/BloomShape" "longerLines" "I" (.int (0 : Int32)) := D45 (Or.inr (hw _ (List.mem_of_getElem? (i := 45) rfl))) (ty := .int) (by decide)
          show OGo p e below s _ _ _ (T45.setTop (mkF m 102 #[.val (.long q0), .second, .val (.long q1), .second, .val (.int p2), .val (.int p3), .val (.int p4), .val (.int (f1 (1 : Int32) (p2 &&& (2147483647 : Int32)))), .val (.int j32_0), .val (.long j46_0), .second, .val (.ref w_LINED), .val (.ref w_LINED), .val (.ref b43), .unset, .unset, .unset, .unset] [(.ref b45)]))
          refine OGo.st (fun _ k => XS.dup X45.here hx rfl (hb hby at_102) rfl rfl k) ?_
          show OGo p e below s _ _ _ (T45.setTop (mkF m 103 #[.val (.long q0), .second, .val (.long q1), .second, .val (.int p2), .val (.int p3), .val (.int p4), .val (.int (f1 (1 : Int32) (p2 &&& (2147483647 : Int32)))), .val (.int j32_0), .val (.long j46_0), .second, .val (.ref w_LINED), .val (.ref w_LINED), .val (.ref b43), .unset, .unset, .unset, .unset] [(.ref b45), (.ref b45)]))
          refine OGo.st (fun _ k => XS.lload X45.here hx rfl (hb hby at_103) rfl k) ?_
          show OGo p e below s _ _ _ (T45.setTop (mkF m 105 #[.val (.long q0), .second, .val (.long q1), .second, .val (.int p2), .val (.int p3), .val (.int p4), .val (.int (f1 (1 : Int32) (p2 &&& (2147483647 : Int32)))), .val (.int j32_0), .val (.long j46_0), .second, .val (.ref w_LINED), .val (.ref w_LINED), .val (.ref b43), .unset, .unset, .unset, .unset] [(.long j46_0), (.ref b45), (.ref b45)]))
          refine OGo.st (fun _ k => XS.iload X45.here hx rfl (hb hby at_105) rfl k) ?_
          show OGo p e below s _ _ _ (T45.setTop (mkF m 107 #[.val (.long q0), .second, .val (.long q1), .second, .val (.int p2), .val (.int p3), .val (.int p4), .val (.int (f1 (1 : Int32) (p2 &&& (2147483647 : Int32)))), .val (.int j32_0), .val (.long j46_0), .second, .val (.ref w_LINED), .val (.ref w_LINED), .val (.ref b43), .unset, .unset, .unset, .unset] [(.int j32_0), (.long j46_0), (.ref b45), (.ref b45)]))
          refine OGo.st (fun _ k => XS.aload X45.here hx rfl (hb hby at_107) rfl rfl k) ?_
          show OGo p e below s _ _ _ (T45.setTop (mkF m 109 #[.val (.long q0), .second, .val (.long q1), .second, .val (.int p2), .val (.int p3), .val (.int p4), .val (.int (f1 (1 : Int32) (p2 &&& (2147483647 : Int32)))), .val (.int j32_0), .val (.long j46_0), .second, .val (.ref w_LINED), .val (.ref w_LINED), .val (.ref b43), .unset, .unset, .unset, .unset] [(.ref w_LINED), (.int j32_0), (.long j46_0), (.ref b45), (.ref b45)]))
          obtain ⟨_, _, ⟨T46, L46, k46, n46⟩, -, X46, ⟨Lc46, hQ46, l46, y46, z46⟩, st46⟩ := X45.specialBack hx (y := (⟨"com/example/hazy_set/hazyset/BloomShape", "<init>", "(JILcom/example/hazy_set/hazyset/BloomShape$Layout;)V"⟩ : MethodName)) rfl hown (mvT hZ (hw _ (List.mem_of_getElem? (i := 11) rfl))) (mvT hZ (hw _ (List.mem_of_getElem? (i := 12) rfl))) (mvT hZ (hw _ (List.mem_of_getElem? (i := 13) rfl))) (by decide) (backOf (W := 1) (rm2L l Z a0 hw [] b45 j46_0 j32_0 w_LINED h45 n0 Z45 A45 F_bitCount_b45 F_hashCount_b45 F_layout_b45 F_lineCount_b45 F_linesPerElement_b45 F_bitsPerLine_b45 F_longerLines_b45 E_LINED_w45 O_LINED_lineShift_w45 O_LINED_ordinal_w45 g_b45 ne_w_LINED_b45 hk2) hZ (hw _ (List.mem_of_getElem? (i := 13) rfl)) (hw _ (List.mem_of_getElem? (i := 10) rfl)) (by decide) (by decide)) (g := (mkF m 109 #[.val (.long q0), .second, .val (.long q1), .second, .val (.int p2), .val (.int p3), .val (.int p4), .val (.int (f1 (1 : Int32) (p2 &&& (2147483647 : Int32)))), .val (.int j32_0), .val (.long j46_0), .second, .val (.ref w_LINED), .val (.ref w_LINED), .val (.ref b43), .unset, .unset, .unset, .unset] [(.ref w_LINED), (.int j32_0), (.long j46_0), (.ref b45), (.ref b45)])) rfl (by rw [hml]; rfl) (Steps.refl _) (a := b45) (argsL := [(.long j46_0), (.int j32_0), (.ref w_LINED)]) (rest := [(.ref b45)]) (lenOf pd_0_1 rfl) rfl (by show 2 * 0 + _ ≤ _; exact Nat.le_of_eq rfl) (hb hby at_109) (fun _ _ => ⟨rfl, e45, (by decide : 2 + 0 ≤ _), (by decide : 14 + 0 ≤ _)⟩)
          dsimp only [Pt.U, Pt.locs, Pt.cells, Pt.slots] at X46 l46 y46 z46 st46 hQ46
          subst l46 y46 z46
          obtain ⟨rfl, N46q, Kc46, G46_0, G46_1, G46_2⟩ := hQ46
          have S_LINED_w46 := osta_keep S_LINED_w45 Kc46 (osta_exa A45 (fun _ _ _ _ => nin0))
          have S_SCATTERED_w46 := osta_keep S_SCATTERED_w45 Kc46 (osta_exa A45 (fun _ _ _ _ => nin0))
          have E_LINED_w46 := E_LINED_w45.keep Kc46
          have E_SCATTERED_w46 := E_SCATTERED_w45.keep Kc46
          have O_LINED_lineShift_w46 := O_LINED_lineShift_w45.keep Kc46 (ninS ne_w_LINED_b45 nin0)
          have O_LINED_ordinal_w46 := O_LINED_ordinal_w45.keep Kc46 (ninS ne_w_LINED_b45 nin0)
          have O_SCATTERED_lineShift_w46 := O_SCATTERED_lineShift_w45.keep Kc46 (ninS ne_w_SCATTERED_b45 nin0)
          have O_SCATTERED_ordinal_w46 := O_SCATTERED_ordinal_w45.keep Kc46 (ninS ne_w_SCATTERED_b45 nin0)
          have S_C_w46 := osta_keep S_C_w45 Kc46 (osta_exa A45 (fun _ _ _ _ => nin0))
          have A43_w46 := A43_w45.keep Kc46
          have G44_0_w46 := G44_0_w45.keep Kc46 (ninS ne_b43_b45 nin0)
          have G44_1_w46 := G44_1_w45.keep Kc46 (ninS ne_b43_b45 nin0)
          have G44_2_w46 := G44_2_w45.keep Kc46 (ninS ne_b43_b45 nin0)
          have A45_w46 := A45.keep Kc46
          have K46 : Keep h0 T46.heap [] := (K45).trans Kc46 (allS (Or.inr sz_b45) all0)
          have Z46 : n0 ≤ T46.heap.size := Nat.le_trans Z45 Kc46.1
          have N46 := Fr.app N44 N46q
          refine OGo.st (fun _ k => st46.trans k) ?_
          show OGo p e below s _ _ _ (T46.setTop (mkF m 112 #[.val (.long q0), .second, .val (.long q1), .second, .val (.int p2), .val (.int p3), .val (.int p4), .val (.int (f1 (1 : Int32) (p2 &&& (2147483647 : Int32)))), .val (.int j32_0), .val (.long j46_0), .second, .val (.ref w_LINED), .val (.ref w_LINED), .val (.ref b43), .unset, .unset, .unset, .unset] [(.ref b45)]))
          refine OGo.st (fun _ k => XS.astore X46.here hx rfl (hb hby at_112) rfl rfl (l' := #[.val (.long q0), .second, .val (.long q1), .second, .val (.int p2), .val (.int p3), .val (.int p4), .val (.int (f1 (1 : Int32) (p2 &&& (2147483647 : Int32)))), .val (.int j32_0), .val (.long j46_0), .second, .val (.ref w_LINED), .val (.ref w_LINED), .val (.ref b43), .val (.ref b45), .unset, .unset, .unset]) rfl k) ?_
          show OGo p e below s _ _ _ (T46.setTop (mkF m 114 #[.val (.long q0), .second, .val (.long q1), .second, .val (.int p2), .val (.int p3), .val (.int p4), .val (.int (f1 (1 : Int32) (p2 &&& (2147483647 : Int32)))), .val (.int j32_0), .val (.long j46_0), .second, .val (.ref w_LINED), .val (.ref w_LINED), .val (.ref b43), .val (.ref b45), .unset, .unset, .unset] []))
          refine OGo.st (fun _ k => XS.iload X46.here hx rfl (hb hby at_114) rfl k) ?_
          show OGo p e below s _ _ _ (T46.setTop (mkF m 116 #[.val (.long q0), .second, .val (.long q1), .second, .val (.int p2), .val (.int p3), .val (.int p4), .val (.int (f1 (1 : Int32) (p2 &&& (2147483647 : Int32)))), .val (.int j32_0), .val (.long j46_0), .second, .val (.ref w_LINED), .val (.ref w_LINED), .val (.ref b43), .val (.ref b45), .unset, .unset, .unset] [(.int p4)]))
          refine OGo.st (fun _ k => XS.iconst X46.here hx rfl (hb hby at_116) k) ?_
          show OGo p e below s _ _ _ (T46.setTop (mkF m 117 #[.val (.long q0), .second, .val (.long q1), .second, .val (.int p2), .val (.int p3), .val (.int p4), .val (.int (f1 (1 : Int32) (p2 &&& (2147483647 : Int32)))), .val (.int j32_0), .val (.long j46_0), .second, .val (.ref w_LINED), .val (.ref w_LINED), .val (.ref b43), .val (.ref b45), .unset, .unset, .unset] [(.int (4 : Int32)), (.int p4)]))
          refine OGo.st (fun _ k => XS.iushr X46.here hx rfl (hb hby at_117) rfl k) ?_
          show OGo p e below s _ _ _ (T46.setTop (mkF m 118 #[.val (.long q0), .second, .val (.long q1), .second, .val (.int p2), .val (.int p3), .val (.int p4), .val (.int (f1 (1 : Int32) (p2 &&& (2147483647 : Int32)))), .val (.int j32_0), .val (.long j46_0), .second, .val (.ref w_LINED), .val (.ref w_LINED), .val (.ref b43), .val (.ref b45), .unset, .unset, .unset] [(.int ((p4.toUInt32 >>> ((4 : Int32) &&& 31).toUInt32).toInt32))]))
          refine OGo.st (fun _ k => XS.iconst X46.here hx rfl (hb hby at_118) k) ?_
          show OGo p e below s _ _ _ (T46.setTop (mkF m 119 #[.val (.long q0), .second, .val (.long q1), .second, .val (.int p2), .val (.int p3), .val (.int p4), .val (.int (f1 (1 : Int32) (p2 &&& (2147483647 : Int32)))), .val (.int j32_0), .val (.long j46_0), .second, .val (.ref w_LINED), .val (.ref w_LINED), .val (.ref b43), .val (.ref b45), .unset, .unset, .unset] [(.int (3 : Int32)), (.int ((p4.toUInt32 >>> ((4 : Int32) &&& 31).toUInt32).toInt32))]))
          refine OGo.st (fun _ k => XS.iand X46.here hx rfl (hb hby at_119) rfl k) ?_
          show OGo p e below s _ _ _ (T46.setTop (mkF m 120 #[.val (.long q0), .second, .val (.long q1), .second, .val (.int p2), .val (.int p3), .val (.int p4), .val (.int (f1 (1 : Int32) (p2 &&& (2147483647 : Int32)))), .val (.int j32_0), .val (.long j46_0), .second, .val (.ref w_LINED), .val (.ref w_LINED), .val (.ref b43), .val (.ref b45), .unset, .unset, .unset] [(.int (((p4.toUInt32 >>> ((4 : Int32) &&& 31).toUInt32).toInt32) &&& (3 : Int32)))]))
          refine OGo.st (fun _ k => XS.istore X46.here hx rfl (hb hby at_120) rfl (l' := #[.val (.long q0), .second, .val (.long q1), .second, .val (.int p2), .val (.int p3), .val (.int p4), .val (.int (f1 (1 : Int32) (p2 &&& (2147483647 : Int32)))), .val (.int j32_0), .val (.long j46_0), .second, .val (.ref w_LINED), .val (.ref w_LINED), .val (.ref b43), .val (.ref b45), .val (.int (v0_0 q0 q1 p2 p3 p4 w_LINED w_SCATTERED w_C c_C j32_0 j46_0)), .unset, .unset]) rfl k) ?_
          show OGo p e below s _ _ _ (T46.setTop (mkF m 122 #[.val (.long q0), .second, .val (.long q1), .second, .val (.int p2), .val (.int p3), .val (.int p4), .val (.int (f1 (1 : Int32) (p2 &&& (2147483647 : Int32)))), .val (.int j32_0), .val (.long j46_0), .second, .val (.ref w_LINED), .val (.ref w_LINED), .val (.ref b43), .val (.ref b45), .val (.int (v0_0 q0 q1 p2 p3 p4 w_LINED w_SCATTERED w_C c_C j32_0 j46_0)), .unset, .unset] []))
          refine OGo.st (fun _ k => XS.iload X46.here hx rfl (hb hby at_122) rfl k) ?_
          show OGo p e below s _ _ _ (T46.setTop (mkF m 124 #[.val (.long q0), .second, .val (.long q1), .second, .val (.int p2), .val (.int p3), .val (.int p4), .val (.int (f1 (1 : Int32) (p2 &&& (2147483647 : Int32)))), .val (.int j32_0), .val (.long j46_0), .second, .val (.ref w_LINED), .val (.ref w_LINED), .val (.ref b43), .val (.ref b45), .val (.int (v0_0 q0 q1 p2 p3 p4 w_LINED w_SCATTERED w_C c_C j32_0 j46_0)), .unset, .unset] [(.int (v0_0 q0 q1 p2 p3 p4 w_LINED w_SCATTERED w_C c_C j32_0 j46_0))]))
          by_cases hc124 : (v0_0 q0 q1 p2 p3 p4 w_LINED w_SCATTERED w_C c_C j32_0 j46_0) = (0 : Int32)
          · refine OGo.st (fun _ k => XS.ifNo X46.here hx rfl (hb hby at_124) rfl ((if0 _ _).trans (teq hc124).2) k) ?_
            show OGo p e below s _ _ _ (T46.setTop (mkF m 127 #[.val (.long q0), .second, .val (.long q1), .second, .val (.int p2), .val (.int p3), .val (.int p4), .val (.int (f1 (1 : Int32) (p2 &&& (2147483647 : Int32)))), .val (.int j32_0), .val (.long j46_0), .second, .val (.ref w_LINED), .val (.ref w_LINED), .val (.ref b43), .val (.ref b45), .val (.int (v0_0 q0 q1 p2 p3 p4 w_LINED w_SCATTERED w_C c_C j32_0 j46_0)), .unset, .unset] []))
            refine OGo.st (fun _ k => XS.aload X46.here hx rfl (hb hby at_127) rfl rfl k) ?_
            show OGo p e below s _ _ _ (T46.setTop (mkF m 129 #[.val (.long q0), .second, .val (.long q1), .second, .val (.int p2), .val (.int p3), .val (.int p4), .val (.int (f1 (1 : Int32) (p2 &&& (2147483647 : Int32)))), .val (.int j32_0), .val (.long j46_0), .second, .val (.ref w_LINED), .val (.ref w_LINED), .val (.ref b43), .val (.ref b45), .val (.int (v0_0 q0 q1 p2 p3 p4 w_LINED w_SCATTERED w_C c_C j32_0 j46_0)), .unset, .unset] [(.ref b45)]))
            refine OGo.st (fun _ k => XS.astore X46.here hx rfl (hb hby at_129) rfl rfl (l' := #[.val (.long q0), .second, .val (.long q1), .second, .val (.int p2), .val (.int p3), .val (.int p4), .val (.int (f1 (1 : Int32) (p2 &&& (2147483647 : Int32)))), .val (.int j32_0), .val (.long j46_0), .second, .val (.ref w_LINED), .val (.ref w_LINED), .val (.ref b43), .val (.ref b45), .val (.int (v0_0 q0 q1 p2 p3 p4 w_LINED w_SCATTERED w_C c_C j32_0 j46_0)), .val (.ref b45), .unset]) rfl k) ?_
            show OGo p e below s _ _ _ (T46.setTop (mkF m 131 #[.val (.long q0), .second, .val (.long q1), .second, .val (.int p2), .val (.int p3), .val (.int p4), .val (.int (f1 (1 : Int32) (p2 &&& (2147483647 : Int32)))), .val (.int j32_0), .val (.long j46_0), .second, .val (.ref w_LINED), .val (.ref w_LINED), .val (.ref b43), .val (.ref b45), .val (.int (v0_0 q0 q1 p2 p3 p4 w_LINED w_SCATTERED w_C c_C j32_0 j46_0)), .val (.ref b45), .unset] []))
            refine OGo.st (fun _ k => XS.lloadN X46.here hx rfl (hb hby at_131) rfl k) ?_
            show OGo p e below s _ _ _ (T46.setTop (mkF m 132 #[.val (.long q0), .second, .val (.long q1), .second, .val (.int p2), .val (.int p3), .val (.int p4), .val (.int (f1 (1 : Int32) (p2 &&& (2147483647 : Int32)))), .val (.int j32_0), .val (.long j46_0), .second, .val (.ref w_LINED), .val (.ref w_LINED), .val (.ref b43), .val (.ref b45), .val (.int (v0_0 q0 q1 p2 p3 p4 w_LINED w_SCATTERED w_C c_C j32_0 j46_0)), .val (.ref b45), .unset] [(.long q0)]))
            refine OGo.st (fun _ k => XS.lload X46.here hx rfl (hb hby at_132) rfl k) ?_
            show OGo p e below s _ _ _ (T46.setTop (mkF m 134 #[.val (.long q0), .second, .val (.long q1), .second, .val (.int p2), .val (.int p3), .val (.int p4), .val (.int (f1 (1 : Int32) (p2 &&& (2147483647 : Int32)))), .val (.int j32_0), .val (.long j46_0), .second, .val (.ref w_LINED), .val (.ref w_LINED), .val (.ref b43), .val (.ref b45), .val (.int (v0_0 q0 q1 p2 p3 p4 w_LINED w_SCATTERED w_C c_C j32_0 j46_0)), .val (.ref b45), .unset] [(.long j46_0), (.long q0)]))
            refine OGo.st (fun _ k => XS.lcmp X46.here hx rfl (hb hby at_134) rfl k) ?_
            show OGo p e below s _ _ _ (T46.setTop (mkF m 135 #[.val (.long q0), .second, .val (.long q1), .second, .val (.int p2), .val (.int p3), .val (.int p4), .val (.int (f1 (1 : Int32) (p2 &&& (2147483647 : Int32)))), .val (.int j32_0), .val (.long j46_0), .second, .val (.ref w_LINED), .val (.ref w_LINED), .val (.ref b43), .val (.ref b45), .val (.int (v0_0 q0 q1 p2 p3 p4 w_LINED w_SCATTERED w_C c_C j32_0 j46_0)), .val (.ref b45), .unset] [(.int (lcmpW q0 j46_0))]))
            by_cases hc135 : q0 = j46_0
            · refine OGo.st (fun _ k => XS.ifNo X46.here hx rfl (hb hby at_135) rfl ((if0 _ _).trans (teq ((olc_eq _ _).mpr hc135)).2) k) ?_
              show OGo p e below s _ _ _ (T46.setTop (mkF m 138 #[.val (.long q0), .second, .val (.long q1), .second, .val (.int p2), .val (.int p3), .val (.int p4), .val (.int (f1 (1 : Int32) (p2 &&& (2147483647 : Int32)))), .val (.int j32_0), .val (.long j46_0), .second, .val (.ref w_LINED), .val (.ref w_LINED), .val (.ref b43), .val (.ref b45), .val (.int (v0_0 q0 q1 p2 p3 p4 w_LINED w_SCATTERED w_C c_C j32_0 j46_0)), .val (.ref b45), .unset] []))
              refine OGo.st (fun _ k => XS.iload X46.here hx rfl (hb hby at_138) rfl k) ?_
              show OGo p e below s _ _ _ (T46.setTop (mkF m 140 #[.val (.long q0), .second, .val (.long q1), .second, .val (.int p2), .val (.int p3), .val (.int p4), .val (.int (f1 (1 : Int32) (p2 &&& (2147483647 : Int32)))), .val (.int j32_0), .val (.long j46_0), .second, .val (.ref w_LINED), .val (.ref w_LINED), .val (.ref b43), .val (.ref b45), .val (.int (v0_0 q0 q1 p2 p3 p4 w_LINED w_SCATTERED w_C c_C j32_0 j46_0)), .val (.ref b45), .unset] [(.int (f1 (1 : Int32) (p2 &&& (2147483647 : Int32))))]))
              refine OGo.st (fun _ k => XS.iload X46.here hx rfl (hb hby at_140) rfl k) ?_
              show OGo p e below s _ _ _ (T46.setTop (mkF m 142 #[.val (.long q0), .second, .val (.long q1), .second, .val (.int p2), .val (.int p3), .val (.int p4), .val (.int (f1 (1 : Int32) (p2 &&& (2147483647 : Int32)))), .val (.int j32_0), .val (.long j46_0), .second, .val (.ref w_LINED), .val (.ref w_LINED), .val (.ref b43), .val (.ref b45), .val (.int (v0_0 q0 q1 p2 p3 p4 w_LINED w_SCATTERED w_C c_C j32_0 j46_0)), .val (.ref b45), .unset] [(.int j32_0), (.int (f1 (1 : Int32) (p2 &&& (2147483647 : Int32))))]))
              by_cases hc142 : (f1 (1 : Int32) (p2 &&& (2147483647 : Int32))) = j32_0
              · refine OGo.st (fun _ k => XS.icmpNo X46.here hx rfl (hb hby at_142) rfl (teq hc142).2 k) ?_
                show OGo p e below s _ _ _ (T46.setTop (mkF m 145 #[.val (.long q0), .second, .val (.long q1), .second, .val (.int p2), .val (.int p3), .val (.int p4), .val (.int (f1 (1 : Int32) (p2 &&& (2147483647 : Int32)))), .val (.int j32_0), .val (.long j46_0), .second, .val (.ref w_LINED), .val (.ref w_LINED), .val (.ref b43), .val (.ref b45), .val (.int (v0_0 q0 q1 p2 p3 p4 w_LINED w_SCATTERED w_C c_C j32_0 j46_0)), .val (.ref b45), .unset] []))
                refine OGo.st (fun _ k => XS.aload X46.here hx rfl (hb hby at_145) rfl rfl k) ?_
                show OGo p e below s _ _ _ (T46.setTop (mkF m 147 #[.val (.long q0), .second, .val (.long q1), .second, .val (.int p2), .val (.int p3), .val (.int p4), .val (.int (f1 (1 : Int32) (p2 &&& (2147483647 : Int32)))), .val (.int j32_0), .val (.long j46_0), .second, .val (.ref w_LINED), .val (.ref w_LINED), .val (.ref b43), .val (.ref b45), .val (.int (v0_0 q0 q1 p2 p3 p4 w_LINED w_SCATTERED w_C c_C j32_0 j46_0)), .val (.ref b45), .unset] [(.ref w_LINED)]))
                refine OGo.st (fun _ k => XS.aload X46.here hx rfl (hb hby at_147) rfl rfl k) ?_
                show OGo p e below s _ _ _ (T46.setTop (mkF m 149 #[.val (.long q0), .second, .val (.long q1), .second, .val (.int p2), .val (.int p3), .val (.int p4), .val (.int (f1 (1 : Int32) (p2 &&& (2147483647 : Int32)))), .val (.int j32_0), .val (.long j46_0), .second, .val (.ref w_LINED), .val (.ref w_LINED), .val (.ref b43), .val (.ref b45), .val (.int (v0_0 q0 q1 p2 p3 p4 w_LINED w_SCATTERED w_C c_C j32_0 j46_0)), .val (.ref b45), .unset] [(.ref w_LINED), (.ref w_LINED)]))
                refine OGo.st (fun _ k => Jvm.RoadKit.acmp (g := (mkF m 149 #[.val (.long q0), .second, .val (.long q1), .second, .val (.int p2), .val (.int p3), .val (.int p4), .val (.int (f1 (1 : Int32) (p2 &&& (2147483647 : Int32)))), .val (.int j32_0), .val (.long j46_0), .second, .val (.ref w_LINED), .val (.ref w_LINED), .val (.ref b43), .val (.ref b45), .val (.int (v0_0 q0 q1 p2 p3 p4 w_LINED w_SCATTERED w_C c_C j32_0 j46_0)), .val (.ref b45), .unset] [(.ref w_LINED), (.ref w_LINED)])) X46 hx rfl rfl rfl (pc0 := 149) (pc' := 152) (same := true) rfl (hb hby at_149) rfl (decide_eq_true rfl) (by decide) (by decide) k) ?_
                show OGo p e below s _ _ _ (T46.setTop (mkF m 152 #[.val (.long q0), .second, .val (.long q1), .second, .val (.int p2), .val (.int p3), .val (.int p4), .val (.int (f1 (1 : Int32) (p2 &&& (2147483647 : Int32)))), .val (.int j32_0), .val (.long j46_0), .second, .val (.ref w_LINED), .val (.ref w_LINED), .val (.ref b43), .val (.ref b45), .val (.int (v0_0 q0 q1 p2 p3 p4 w_LINED w_SCATTERED w_C c_C j32_0 j46_0)), .val (.ref b45), .unset] []))
                refine OGo.st (fun _ k => XS.iconst X46.here hx rfl (hb hby at_152) k) ?_
                show OGo p e below s _ _ _ (T46.setTop (mkF m 153 #[.val (.long q0), .second, .val (.long q1), .second, .val (.int p2), .val (.int p3), .val (.int p4), .val (.int (f1 (1 : Int32) (p2 &&& (2147483647 : Int32)))), .val (.int j32_0), .val (.long j46_0), .second, .val (.ref w_LINED), .val (.ref w_LINED), .val (.ref b43), .val (.ref b45), .val (.int (v0_0 q0 q1 p2 p3 p4 w_LINED w_SCATTERED w_C c_C j32_0 j46_0)), .val (.ref b45), .unset] [(.int (1 : Int32))]))
                refine OGo.st (fun _ k => XS.goto X46.here hx rfl (pc0 := 153) (pc' := 157) rfl (hb hby at_153) (by decide) (by decide) k) ?_
                show OGo p e below s _ _ _ (T46.setTop (mkF m 157 #[.val (.long q0), .second, .val (.long q1), .second, .val (.int p2), .val (.int p3), .val (.int p4), .val (.int (f1 (1 : Int32) (p2 &&& (2147483647 : Int32)))), .val (.int j32_0), .val (.long j46_0), .second, .val (.ref w_LINED), .val (.ref w_LINED), .val (.ref b43), .val (.ref b45), .val (.int (v0_0 q0 q1 p2 p3 p4 w_LINED w_SCATTERED w_C c_C j32_0 j46_0)), .val (.ref b45), .unset] [(.int (1 : Int32))]))
                refine OGo.st (fun _ k => XS.istore X46.here hx rfl (hb hby at_157) rfl (l' := #[.val (.long q0), .second, .val (.long q1), .second, .val (.int p2), .val (.int p3), .val (.int p4), .val (.int (f1 (1 : Int32) (p2 &&& (2147483647 : Int32)))), .val (.int j32_0), .val (.long j46_0), .second, .val (.ref w_LINED), .val (.ref w_LINED), .val (.ref b43), .val (.ref b45), .val (.int (v0_0 q0 q1 p2 p3 p4 w_LINED w_SCATTERED w_C c_C j32_0 j46_0)), .val (.ref b45), .val (.int (1 : Int32))]) rfl k) ?_
                show OGo p e below s _ _ _ (T46.setTop (mkF m 159 #[.val (.long q0), .second, .val (.long q1), .second, .val (.int p2), .val (.int p3), .val (.int p4), .val (.int (f1 (1 : Int32) (p2 &&& (2147483647 : Int32)))), .val (.int j32_0), .val (.long j46_0), .second, .val (.ref w_LINED), .val (.ref w_LINED), .val (.ref b43), .val (.ref b45), .val (.int (v0_0 q0 q1 p2 p3 p4 w_LINED w_SCATTERED w_C c_C j32_0 j46_0)), .val (.ref b45), .val (.int (1 : Int32))] []))
                refine OGo.st (fun _ k => XS.goto X46.here hx rfl (pc0 := 159) (pc' := 202) rfl (hb hby at_159) (by decide) (by decide) k) ?_
                show OGo p e below s _ _ _ (T46.setTop (mkF m 202 #[.val (.long q0), .second, .val (.long q1), .second, .val (.int p2), .val (.int p3), .val (.int p4), .val (.int (f1 (1 : Int32) (p2 &&& (2147483647 : Int32)))), .val (.int j32_0), .val (.long j46_0), .second, .val (.ref w_LINED), .val (.ref w_LINED), .val (.ref b43), .val (.ref b45), .val (.int (v0_0 q0 q1 p2 p3 p4 w_LINED w_SCATTERED w_C c_C j32_0 j46_0)), .val (.ref b45), .val (.int (1 : Int32))] []))
                refine OGo.st (fun _ k => XS.aload X46.here hx rfl (hb hby at_202) rfl rfl k) ?_
                show OGo p e below s _ _ _ (T46.setTop (mkF m 204 #[.val (.long q0), .second, .val (.long q1), .second, .val (.int p2), .val (.int p3), .val (.int p4), .val (.int (f1 (1 : Int32) (p2 &&& (2147483647 : Int32)))), .val (.int j32_0), .val (.long j46_0), .second, .val (.ref w_LINED), .val (.ref w_LINED), .val (.ref b43), .val (.ref b45), .val (.int (v0_0 q0 q1 p2 p3 p4 w_LINED w_SCATTERED w_C c_C j32_0 j46_0)), .val (.ref b45), .val (.int (1 : Int32))] [(.ref b43)]))
                refine OGo.st (fun _ k => XS.aload X46.here hx rfl (hb hby at_204) rfl rfl k) ?_
                show OGo p e below s _ _ _ (T46.setTop (mkF m 206 #[.val (.long q0), .second, .val (.long q1), .second, .val (.int p2), .val (.int p3), .val (.int p4), .val (.int (f1 (1 : Int32) (p2 &&& (2147483647 : Int32)))), .val (.int j32_0), .val (.long j46_0), .second, .val (.ref w_LINED), .val (.ref w_LINED), .val (.ref b43), .val (.ref b45), .val (.int (v0_0 q0 q1 p2 p3 p4 w_LINED w_SCATTERED w_C c_C j32_0 j46_0)), .val (.ref b45), .val (.int (1 : Int32))] [(.ref b45), (.ref b43)]))
                obtain ⟨cq47, kq47, q47a, q47b, q47c⟩ := isOf hZ rfl A43_w46
                obtain ⟨_, _, ⟨T47, L47, k47, n47⟩, -, X47, ⟨Lc47, hQ47, l47, y47, z47⟩, st47⟩ := X46.virtualBack hx (y := (⟨"com/example/hazy_set/hazyset/BloomShape", "equals", "(Ljava/lang/Object;)Z"⟩ : MethodName)) (z := (⟨"com/example/hazy_set/hazyset/BloomShape", "equals", "(Ljava/lang/Object;)Z"⟩ : MethodName)) hown (mvT hZ (hw _ (List.mem_of_getElem? (i := 46) rfl))) (mvT hZ (hw _ (List.mem_of_getElem? (i := 47) rfl))) (notFace_of_selects (args := #[]) (mvT hZ (hw _ (List.mem_of_getElem? (i := 49) rfl)))) (mvT hZ (hw _ (List.mem_of_getElem? (i := 49) rfl))) (mvT hZ (hw _ (List.mem_of_getElem? (i := 48) rfl))) (by decide) (backOf (W := 0) (rm6B l Z a0 hw [] b43 b45 q0 (f1 (1 : Int32) (p2 &&& (2147483647 : Int32))) w_LINED j46_0 j32_0 w_LINED T46.heap n0 Z46 A43_w46 G44_0_w46 G44_1_w46 G44_2_w46 A45_w46 G46_0 G46_1 G46_2) hZ (hw _ (List.mem_of_getElem? (i := 50) rfl)) (hw _ (List.mem_of_getElem? (i := 10) rfl)) (by decide) (by decide)) q47a q47c (g := (mkF m 206 #[.val (.long q0), .second, .val (.long q1), .second, .val (.int p2), .val (.int p3), .val (.int p4), .val (.int (f1 (1 : Int32) (p2 &&& (2147483647 : Int32)))), .val (.int j32_0), .val (.long j46_0), .second, .val (.ref w_LINED), .val (.ref w_LINED), .val (.ref b43), .val (.ref b45), .val (.int (v0_0 q0 q1 p2 p3 p4 w_LINED w_SCATTERED w_C c_C j32_0 j46_0)), .val (.ref b45), .val (.int (1 : Int32))] [(.ref b45), (.ref b43)])) rfl (by rw [hml]; rfl) (Steps.refl _) (argsL := [(.ref b45)]) (rest := []) (lenOf pd_0_2 rfl) rfl (by show 2 * 0 + _ ≤ _; exact Nat.le_of_eq rfl) (hb hby at_206) (fun _ _ => ⟨rfl, rfl, (by decide : 2 + 0 ≤ _), (by decide : 14 + 0 ≤ _)⟩)
                dsimp only [Pt.U, Pt.locs, Pt.cells, Pt.slots] at X47 l47 y47 z47 st47 hQ47
                subst l47 y47 z47
                obtain ⟨rfl, N47q, e47⟩ := hQ47
                have N47 := Fr.app N46 N47q
                refine OGo.st (fun _ k => st47.trans k) ?_
                show OGo p e below s _ _ _ (T47.setTop (mkF m 209 #[.val (.long q0), .second, .val (.long q1), .second, .val (.int p2), .val (.int p3), .val (.int p4), .val (.int (f1 (1 : Int32) (p2 &&& (2147483647 : Int32)))), .val (.int j32_0), .val (.long j46_0), .second, .val (.ref w_LINED), .val (.ref w_LINED), .val (.ref b43), .val (.ref b45), .val (.int (v0_0 q0 q1 p2 p3 p4 w_LINED w_SCATTERED w_C c_C j32_0 j46_0)), .val (.ref b45), .val (.int (1 : Int32))] [(.int (f6B q0 (f1 (1 : Int32) (p2 &&& (2147483647 : Int32))) w_LINED j46_0 j32_0 w_LINED))]))
                refine OGo.st (fun _ k => XS.iload X47.here hx rfl (hb hby at_209) rfl k) ?_
                show OGo p e below s _ _ _ (T47.setTop (mkF m 211 #[.val (.long q0), .second, .val (.long q1), .second, .val (.int p2), .val (.int p3), .val (.int p4), .val (.int (f1 (1 : Int32) (p2 &&& (2147483647 : Int32)))), .val (.int j32_0), .val (.long j46_0), .second, .val (.ref w_LINED), .val (.ref w_LINED), .val (.ref b43), .val (.ref b45), .val (.int (v0_0 q0 q1 p2 p3 p4 w_LINED w_SCATTERED w_C c_C j32_0 j46_0)), .val (.ref b45), .val (.int (1 : Int32))] [(.int (1 : Int32)), (.int (f6B q0 (f1 (1 : Int32) (p2 &&& (2147483647 : Int32))) w_LINED j46_0 j32_0 w_LINED))]))
                by_cases hc211 : (f6B q0 (f1 (1 : Int32) (p2 &&& (2147483647 : Int32))) w_LINED j46_0 j32_0 w_LINED) = (1 : Int32)
                · refine OGo.st (fun _ k => XS.icmpNo X47.here hx rfl (hb hby at_211) rfl (teq hc211).2 k) ?_
                  show OGo p e below s _ _ _ (T47.setTop (mkF m 214 #[.val (.long q0), .second, .val (.long q1), .second, .val (.int p2), .val (.int p3), .val (.int p4), .val (.int (f1 (1 : Int32) (p2 &&& (2147483647 : Int32)))), .val (.int j32_0), .val (.long j46_0), .second, .val (.ref w_LINED), .val (.ref w_LINED), .val (.ref b43), .val (.ref b45), .val (.int (v0_0 q0 q1 p2 p3 p4 w_LINED w_SCATTERED w_C c_C j32_0 j46_0)), .val (.ref b45), .val (.int (1 : Int32))] []))
                  refine OGo.st (fun _ k => XS.iconst X47.here hx rfl (hb hby at_214) k) ?_
                  show OGo p e below s _ _ _ (T47.setTop (mkF m 215 #[.val (.long q0), .second, .val (.long q1), .second, .val (.int p2), .val (.int p3), .val (.int p4), .val (.int (f1 (1 : Int32) (p2 &&& (2147483647 : Int32)))), .val (.int j32_0), .val (.long j46_0), .second, .val (.ref w_LINED), .val (.ref w_LINED), .val (.ref b43), .val (.ref b45), .val (.int (v0_0 q0 q1 p2 p3 p4 w_LINED w_SCATTERED w_C c_C j32_0 j46_0)), .val (.ref b45), .val (.int (1 : Int32))] [(.int (1 : Int32))]))
                  refine OGo.st (fun _ k => XS.goto X47.here hx rfl (pc0 := 215) (pc' := 219) rfl (hb hby at_215) (by decide) (by decide) k) ?_
                  show OGo p e below s _ _ _ (T47.setTop (mkF m 219 #[.val (.long q0), .second, .val (.long q1), .second, .val (.int p2), .val (.int p3), .val (.int p4), .val (.int (f1 (1 : Int32) (p2 &&& (2147483647 : Int32)))), .val (.int j32_0), .val (.long j46_0), .second, .val (.ref w_LINED), .val (.ref w_LINED), .val (.ref b43), .val (.ref b45), .val (.int (v0_0 q0 q1 p2 p3 p4 w_LINED w_SCATTERED w_C c_C j32_0 j46_0)), .val (.ref b45), .val (.int (1 : Int32))] [(.int (1 : Int32))]))
                  exact oretN X47 hx Bd.notSynchronized (t := .boolean) Bd.returns (by simp) (hb hby at_219) (z' := (1 : Int32)) (by decide) e47 ⟨(congrArg (fun z => some (Value.int z)) (show (1 : Int32) = f0 q0 q1 p2 p3 p4 w_LINED w_SCATTERED w_C c_C from Eq.symm (hf46_0.trans (by unfold f0_46; exact (if_neg hc52).trans ((if_neg hc71).trans ((if_pos hc124).trans ((if_pos hc135).trans ((if_pos hc142).trans (if_pos hc211))))))))), N47⟩ (by decide) (by decide)
                · refine OGo.st (fun _ k => XS.icmpYes X47.here hx rfl (pc0 := 211) (pc' := 218) rfl (hb hby at_211) rfl (feq hc211).2 (by decide) (by decide) k) ?_
                  show OGo p e below s _ _ _ (T47.setTop (mkF m 218 #[.val (.long q0), .second, .val (.long q1), .second, .val (.int p2), .val (.int p3), .val (.int p4), .val (.int (f1 (1 : Int32) (p2 &&& (2147483647 : Int32)))), .val (.int j32_0), .val (.long j46_0), .second, .val (.ref w_LINED), .val (.ref w_LINED), .val (.ref b43), .val (.ref b45), .val (.int (v0_0 q0 q1 p2 p3 p4 w_LINED w_SCATTERED w_C c_C j32_0 j46_0)), .val (.ref b45), .val (.int (1 : Int32))] []))
                  refine OGo.st (fun _ k => XS.iconst X47.here hx rfl (hb hby at_218) k) ?_
                  show OGo p e below s _ _ _ (T47.setTop (mkF m 219 #[.val (.long q0), .second, .val (.long q1), .second, .val (.int p2), .val (.int p3), .val (.int p4), .val (.int (f1 (1 : Int32) (p2 &&& (2147483647 : Int32)))), .val (.int j32_0), .val (.long j46_0), .second, .val (.ref w_LINED), .val (.ref w_LINED), .val (.ref b43), .val (.ref b45), .val (.int (v0_0 q0 q1 p2 p3 p4 w_LINED w_SCATTERED w_C c_C j32_0 j46_0)), .val (.ref b45), .val (.int (1 : Int32))] [(.int (0 : Int32))]))
                  exact oretN X47 hx Bd.notSynchronized (t := .boolean) Bd.returns (by simp) (hb hby at_219) (z' := (0 : Int32)) (by decide) e47 ⟨(congrArg (fun z => some (Value.int z)) (show (0 : Int32) = f0 q0 q1 p2 p3 p4 w_LINED w_SCATTERED w_C c_C from Eq.symm (hf46_0.trans (by unfold f0_46; exact (if_neg hc52).trans ((if_neg hc71).trans ((if_pos hc124).trans ((if_pos hc135).trans ((if_pos hc142).trans (if_neg hc211))))))))), N47⟩ (by decide) (by decide)
              · refine OGo.st (fun _ k => XS.icmpYes X46.here hx rfl (pc0 := 142) (pc' := 156) rfl (hb hby at_142) rfl (feq hc142).2 (by decide) (by decide) k) ?_
                show OGo p e below s _ _ _ (T46.setTop (mkF m 156 #[.val (.long q0), .second, .val (.long q1), .second, .val (.int p2), .val (.int p3), .val (.int p4), .val (.int (f1 (1 : Int32) (p2 &&& (2147483647 : Int32)))), .val (.int j32_0), .val (.long j46_0), .second, .val (.ref w_LINED), .val (.ref w_LINED), .val (.ref b43), .val (.ref b45), .val (.int (v0_0 q0 q1 p2 p3 p4 w_LINED w_SCATTERED w_C c_C j32_0 j46_0)), .val (.ref b45), .unset] []))
                refine OGo.st (fun _ k => XS.iconst X46.here hx rfl (hb hby at_156) k) ?_
                show OGo p e below s _ _ _ (T46.setTop (mkF m 157 #[.val (.long q0), .second, .val (.long q1), .second, .val (.int p2), .val (.int p3), .val (.int p4), .val (.int (f1 (1 : Int32) (p2 &&& (2147483647 : Int32)))), .val (.int j32_0), .val (.long j46_0), .second, .val (.ref w_LINED), .val (.ref w_LINED), .val (.ref b43), .val (.ref b45), .val (.int (v0_0 q0 q1 p2 p3 p4 w_LINED w_SCATTERED w_C c_C j32_0 j46_0)), .val (.ref b45), .unset] [(.int (0 : Int32))]))
                refine OGo.st (fun _ k => XS.istore X46.here hx rfl (hb hby at_157) rfl (l' := #[.val (.long q0), .second, .val (.long q1), .second, .val (.int p2), .val (.int p3), .val (.int p4), .val (.int (f1 (1 : Int32) (p2 &&& (2147483647 : Int32)))), .val (.int j32_0), .val (.long j46_0), .second, .val (.ref w_LINED), .val (.ref w_LINED), .val (.ref b43), .val (.ref b45), .val (.int (v0_0 q0 q1 p2 p3 p4 w_LINED w_SCATTERED w_C c_C j32_0 j46_0)), .val (.ref b45), .val (.int (0 : Int32))]) rfl k) ?_
                show OGo p e below s _ _ _ (T46.setTop (mkF m 159 #[.val (.long q0), .second, .val (.long q1), .second, .val (.int p2), .val (.int p3), .val (.int p4), .val (.int (f1 (1 : Int32) (p2 &&& (2147483647 : Int32)))), .val (.int j32_0), .val (.long j46_0), .second, .val (.ref w_LINED), .val (.ref w_LINED), .val (.ref b43), .val (.ref b45), .val (.int (v0_0 q0 q1 p2 p3 p4 w_LINED w_SCATTERED w_C c_C j32_0 j46_0)), .val (.ref b45), .val (.int (0 : Int32))] []))
                refine OGo.st (fun _ k => XS.goto X46.here hx rfl (pc0 := 159) (pc' := 202) rfl (hb hby at_159) (by decide) (by decide) k) ?_
                show OGo p e below s _ _ _ (T46.setTop (mkF m 202 #[.val (.long q0), .second, .val (.long q1), .second, .val (.int p2), .val (.int p3), .val (.int p4), .val (.int (f1 (1 : Int32) (p2 &&& (2147483647 : Int32)))), .val (.int j32_0), .val (.long j46_0), .second, .val (.ref w_LINED), .val (.ref w_LINED), .val (.ref b43), .val (.ref b45), .val (.int (v0_0 q0 q1 p2 p3 p4 w_LINED w_SCATTERED w_C c_C j32_0 j46_0)), .val (.ref b45), .val (.int (0 : Int32))] []))
                refine OGo.st (fun _ k => XS.aload X46.here hx rfl (hb hby at_202) rfl rfl k) ?_
                show OGo p e below s _ _ _ (T46.setTop (mkF m 204 #[.val (.long q0), .second, .val (.long q1), .second, .val (.int p2), .val (.int p3), .val (.int p4), .val (.int (f1 (1 : Int32) (p2 &&& (2147483647 : Int32)))), .val (.int j32_0), .val (.long j46_0), .second, .val (.ref w_LINED), .val (.ref w_LINED), .val (.ref b43), .val (.ref b45), .val (.int (v0_0 q0 q1 p2 p3 p4 w_LINED w_SCATTERED w_C c_C j32_0 j46_0)), .val (.ref b45), .val (.int (0 : Int32))] [(.ref b43)]))
                refine OGo.st (fun _ k => XS.aload X46.here hx rfl (hb hby at_204) rfl rfl k) ?_
                show OGo p e below s _ _ _ (T46.setTop (mkF m 206 #[.val (.long q0), .second, .val (.long q1), .second, .val (.int p2), .val (.int p3), .val (.int p4), .val (.int (f1 (1 : Int32) (p2 &&& (2147483647 : Int32)))), .val (.int j32_0), .val (.long j46_0), .second, .val (.ref w_LINED), .val (.ref w_LINED), .val (.ref b43), .val (.ref b45), .val (.int (v0_0 q0 q1 p2 p3 p4 w_LINED w_SCATTERED w_C c_C j32_0 j46_0)), .val (.ref b45), .val (.int (0 : Int32))] [(.ref b45), (.ref b43)]))
                obtain ⟨cq48, kq48, q48a, q48b, q48c⟩ := isOf hZ rfl A43_w46
                obtain ⟨_, _, ⟨T48, L48, k48, n48⟩, -, X48, ⟨Lc48, hQ48, l48, y48, z48⟩, st48⟩ := X46.virtualBack hx (y := (⟨"com/example/hazy_set/hazyset/BloomShape", "equals", "(Ljava/lang/Object;)Z"⟩ : MethodName)) (z := (⟨"com/example/hazy_set/hazyset/BloomShape", "equals", "(Ljava/lang/Object;)Z"⟩ : MethodName)) hown (mvT hZ (hw _ (List.mem_of_getElem? (i := 46) rfl))) (mvT hZ (hw _ (List.mem_of_getElem? (i := 47) rfl))) (notFace_of_selects (args := #[]) (mvT hZ (hw _ (List.mem_of_getElem? (i := 49) rfl)))) (mvT hZ (hw _ (List.mem_of_getElem? (i := 49) rfl))) (mvT hZ (hw _ (List.mem_of_getElem? (i := 48) rfl))) (by decide) (backOf (W := 0) (rm6B l Z a0 hw [] b43 b45 q0 (f1 (1 : Int32) (p2 &&& (2147483647 : Int32))) w_LINED j46_0 j32_0 w_LINED T46.heap n0 Z46 A43_w46 G44_0_w46 G44_1_w46 G44_2_w46 A45_w46 G46_0 G46_1 G46_2) hZ (hw _ (List.mem_of_getElem? (i := 50) rfl)) (hw _ (List.mem_of_getElem? (i := 10) rfl)) (by decide) (by decide)) q48a q48c (g := (mkF m 206 #[.val (.long q0), .second, .val (.long q1), .second, .val (.int p2), .val (.int p3), .val (.int p4), .val (.int (f1 (1 : Int32) (p2 &&& (2147483647 : Int32)))), .val (.int j32_0), .val (.long j46_0), .second, .val (.ref w_LINED), .val (.ref w_LINED), .val (.ref b43), .val (.ref b45), .val (.int (v0_0 q0 q1 p2 p3 p4 w_LINED w_SCATTERED w_C c_C j32_0 j46_0)), .val (.ref b45), .val (.int (0 : Int32))] [(.ref b45), (.ref b43)])) rfl (by rw [hml]; rfl) (Steps.refl _) (argsL := [(.ref b45)]) (rest := []) (lenOf pd_0_2 rfl) rfl (by show 2 * 0 + _ ≤ _; exact Nat.le_of_eq rfl) (hb hby at_206) (fun _ _ => ⟨rfl, rfl, (by decide : 2 + 0 ≤ _), (by decide : 14 + 0 ≤ _)⟩)
                dsimp only [Pt.U, Pt.locs, Pt.cells, Pt.slots] at X48 l48 y48 z48 st48 hQ48
                subst l48 y48 z48
                obtain ⟨rfl, N48q, e48⟩ := hQ48
                have N48 := Fr.app N46 N48q
                refine OGo.st (fun _ k => st48.trans k) ?_
                show OGo p e below s _ _ _ (T48.setTop (mkF m 209 #[.val (.long q0), .second, .val (.long q1), .second, .val (.int p2), .val (.int p3), .val (.int p4), .val (.int (f1 (1 : Int32) (p2 &&& (2147483647 : Int32)))), .val (.int j32_0), .val (.long j46_0), .second, .val (.ref w_LINED), .val (.ref w_LINED), .val (.ref b43), .val (.ref b45), .val (.int (v0_0 q0 q1 p2 p3 p4 w_LINED w_SCATTERED w_C c_C j32_0 j46_0)), .val (.ref b45), .val (.int (0 : Int32))] [(.int (f6B q0 (f1 (1 : Int32) (p2 &&& (2147483647 : Int32))) w_LINED j46_0 j32_0 w_LINED))]))
                refine OGo.st (fun _ k => XS.iload X48.here hx rfl (hb hby at_209) rfl k) ?_
                show OGo p e below s _ _ _ (T48.setTop (mkF m 211 #[.val (.long q0), .second, .val (.long q1), .second, .val (.int p2), .val (.int p3), .val (.int p4), .val (.int (f1 (1 : Int32) (p2 &&& (2147483647 : Int32)))), .val (.int j32_0), .val (.long j46_0), .second, .val (.ref w_LINED), .val (.ref w_LINED), .val (.ref b43), .val (.ref b45), .val (.int (v0_0 q0 q1 p2 p3 p4 w_LINED w_SCATTERED w_C c_C j32_0 j46_0)), .val (.ref b45), .val (.int (0 : Int32))] [(.int (0 : Int32)), (.int (f6B q0 (f1 (1 : Int32) (p2 &&& (2147483647 : Int32))) w_LINED j46_0 j32_0 w_LINED))]))
                by_cases hc211 : (f6B q0 (f1 (1 : Int32) (p2 &&& (2147483647 : Int32))) w_LINED j46_0 j32_0 w_LINED) = (0 : Int32)
                · refine OGo.st (fun _ k => XS.icmpNo X48.here hx rfl (hb hby at_211) rfl (teq hc211).2 k) ?_
                  show OGo p e below s _ _ _ (T48.setTop (mkF m 214 #[.val (.long q0), .second, .val (.long q1), .second, .val (.int p2), .val (.int p3), .val (.int p4), .val (.int (f1 (1 : Int32) (p2 &&& (2147483647 : Int32)))), .val (.int j32_0), .val (.long j46_0), .second, .val (.ref w_LINED), .val (.ref w_LINED), .val (.ref b43), .val (.ref b45), .val (.int (v0_0 q0 q1 p2 p3 p4 w_LINED w_SCATTERED w_C c_C j32_0 j46_0)), .val (.ref b45), .val (.int (0 : Int32))] []))
                  refine OGo.st (fun _ k => XS.iconst X48.here hx rfl (hb hby at_214) k) ?_
                  show OGo p e below s _ _ _ (T48.setTop (mkF m 215 #[.val (.long q0), .second, .val (.long q1), .second, .val (.int p2), .val (.int p3), .val (.int p4), .val (.int (f1 (1 : Int32) (p2 &&& (2147483647 : Int32)))), .val (.int j32_0), .val (.long j46_0), .second, .val (.ref w_LINED), .val (.ref w_LINED), .val (.ref b43), .val (.ref b45), .val (.int (v0_0 q0 q1 p2 p3 p4 w_LINED w_SCATTERED w_C c_C j32_0 j46_0)), .val (.ref b45), .val (.int (0 : Int32))] [(.int (1 : Int32))]))
                  refine OGo.st (fun _ k => XS.goto X48.here hx rfl (pc0 := 215) (pc' := 219) rfl (hb hby at_215) (by decide) (by decide) k) ?_
                  show OGo p e below s _ _ _ (T48.setTop (mkF m 219 #[.val (.long q0), .second, .val (.long q1), .second, .val (.int p2), .val (.int p3), .val (.int p4), .val (.int (f1 (1 : Int32) (p2 &&& (2147483647 : Int32)))), .val (.int j32_0), .val (.long j46_0), .second, .val (.ref w_LINED), .val (.ref w_LINED), .val (.ref b43), .val (.ref b45), .val (.int (v0_0 q0 q1 p2 p3 p4 w_LINED w_SCATTERED w_C c_C j32_0 j46_0)), .val (.ref b45), .val (.int (0 : Int32))] [(.int (1 : Int32))]))
                  exact oretN X48 hx Bd.notSynchronized (t := .boolean) Bd.returns (by simp) (hb hby at_219) (z' := (1 : Int32)) (by decide) e48 ⟨(congrArg (fun z => some (Value.int z)) (show (1 : Int32) = f0 q0 q1 p2 p3 p4 w_LINED w_SCATTERED w_C c_C from Eq.symm (hf46_0.trans (by unfold f0_46; exact (if_neg hc52).trans ((if_neg hc71).trans ((if_pos hc124).trans ((if_pos hc135).trans ((if_neg hc142).trans (if_pos hc211))))))))), N48⟩ (by decide) (by decide)
                · refine OGo.st (fun _ k => XS.icmpYes X48.here hx rfl (pc0 := 211) (pc' := 218) rfl (hb hby at_211) rfl (feq hc211).2 (by decide) (by decide) k) ?_
                  show OGo p e below s _ _ _ (T48.setTop (mkF m 218 #[.val (.long q0), .second, .val (.long q1), .second, .val (.int p2), .val (.int p3), .val (.int p4), .val (.int (f1 (1 : Int32) (p2 &&& (2147483647 : Int32)))), .val (.int j32_0), .val (.long j46_0), .second, .val (.ref w_LINED), .val (.ref w_LINED), .val (.ref b43), .val (.ref b45), .val (.int (v0_0 q0 q1 p2 p3 p4 w_LINED w_SCATTERED w_C c_C j32_0 j46_0)), .val (.ref b45), .val (.int (0 : Int32))] []))
                  refine OGo.st (fun _ k => XS.iconst X48.here hx rfl (hb hby at_218) k) ?_
                  show OGo p e below s _ _ _ (T48.setTop (mkF m 219 #[.val (.long q0), .second, .val (.long q1), .second, .val (.int p2), .val (.int p3), .val (.int p4), .val (.int (f1 (1 : Int32) (p2 &&& (2147483647 : Int32)))), .val (.int j32_0), .val (.long j46_0), .second, .val (.ref w_LINED), .val (.ref w_LINED), .val (.ref b43), .val (.ref b45), .val (.int (v0_0 q0 q1 p2 p3 p4 w_LINED w_SCATTERED w_C c_C j32_0 j46_0)), .val (.ref b45), .val (.int (0 : Int32))] [(.int (0 : Int32))]))
                  exact oretN X48 hx Bd.notSynchronized (t := .boolean) Bd.returns (by simp) (hb hby at_219) (z' := (0 : Int32)) (by decide) e48 ⟨(congrArg (fun z => some (Value.int z)) (show (0 : Int32) = f0 q0 q1 p2 p3 p4 w_LINED w_SCATTERED w_C c_C from Eq.symm (hf46_0.trans (by unfold f0_46; exact (if_neg hc52).trans ((if_neg hc71).trans ((if_pos hc124).trans ((if_pos hc135).trans ((if_neg hc142).trans (if_neg hc211))))))))), N48⟩ (by decide) (by decide)
            · refine OGo.st (fun _ k => XS.ifYes X46.here hx rfl (pc0 := 135) (pc' := 156) rfl (hb hby at_135) rfl ((if0 _ _).trans (feq (fun z => hc135 ((olc_eq _ _).mp z))).2) (by decide) (by decide) k) ?_
              show OGo p e below s _ _ _ (T46.setTop (mkF m 156 #[.val (.long q0), .second, .val (.long q1), .second, .val (.int p2), .val (.int p3), .val (.int p4), .val (.int (f1 (1 : Int32) (p2 &&& (2147483647 : Int32)))), .val (.int j32_0), .val (.long j46_0), .second, .val (.ref w_LINED), .val (.ref w_LINED), .val (.ref b43), .val (.ref b45), .val (.int (v0_0 q0 q1 p2 p3 p4 w_LINED w_SCATTERED w_C c_C j32_0 j46_0)), .val (.ref b45), .unset] []))
              refine OGo.st (fun _ k => XS.iconst X46.here hx rfl (hb hby at_156) k) ?_
              show OGo p e below s _ _ _ (T46.setTop (mkF m 157 #[.val (.long q0), .second, .val (.long q1), .second, .val (.int p2), .val (.int p3), .val (.int p4), .val (.int (f1 (1 : Int32) (p2 &&& (2147483647 : Int32)))), .val (.int j32_0), .val (.long j46_0), .second, .val (.ref w_LINED), .val (.ref w_LINED), .val (.ref b43), .val (.ref b45), .val (.int (v0_0 q0 q1 p2 p3 p4 w_LINED w_SCATTERED w_C c_C j32_0 j46_0)), .val (.ref b45), .unset] [(.int (0 : Int32))]))
              refine OGo.st (fun _ k => XS.istore X46.here hx rfl (hb hby at_157) rfl (l' := #[.val (.long q0), .second, .val (.long q1), .second, .val (.int p2), .val (.int p3), .val (.int p4), .val (.int (f1 (1 : Int32) (p2 &&& (2147483647 : Int32)))), .val (.int j32_0), .val (.long j46_0), .second, .val (.ref w_LINED), .val (.ref w_LINED), .val (.ref b43), .val (.ref b45), .val (.int (v0_0 q0 q1 p2 p3 p4 w_LINED w_SCATTERED w_C c_C j32_0 j46_0)), .val (.ref b45), .val (.int (0 : Int32))]) rfl k) ?_
              show OGo p e below s _ _ _ (T46.setTop (mkF m 159 #[.val (.long q0), .second, .val (.long q1), .second, .val (.int p2), .val (.int p3), .val (.int p4), .val (.int (f1 (1 : Int32) (p2 &&& (2147483647 : Int32)))), .val (.int j32_0), .val (.long j46_0), .second, .val (.ref w_LINED), .val (.ref w_LINED), .val (.ref b43), .val (.ref b45), .val (.int (v0_0 q0 q1 p2 p3 p4 w_LINED w_SCATTERED w_C c_C j32_0 j46_0)), .val (.ref b45), .val (.int (0 : Int32))] []))
              refine OGo.st (fun _ k => XS.goto X46.here hx rfl (pc0 := 159) (pc' := 202) rfl (hb hby at_159) (by decide) (by decide) k) ?_
              show OGo p e below s _ _ _ (T46.setTop (mkF m 202 #[.val (.long q0), .second, .val (.long q1), .second, .val (.int p2), .val (.int p3), .val (.int p4), .val (.int (f1 (1 : Int32) (p2 &&& (2147483647 : Int32)))), .val (.int j32_0), .val (.long j46_0), .second, .val (.ref w_LINED), .val (.ref w_LINED), .val (.ref b43), .val (.ref b45), .val (.int (v0_0 q0 q1 p2 p3 p4 w_LINED w_SCATTERED w_C c_C j32_0 j46_0)), .val (.ref b45), .val (.int (0 : Int32))] []))
              refine OGo.st (fun _ k => XS.aload X46.here hx rfl (hb hby at_202) rfl rfl k) ?_
              show OGo p e below s _ _ _ (T46.setTop (mkF m 204 #[.val (.long q0), .second, .val (.long q1), .second, .val (.int p2), .val (.int p3), .val (.int p4), .val (.int (f1 (1 : Int32) (p2 &&& (2147483647 : Int32)))), .val (.int j32_0), .val (.long j46_0), .second, .val (.ref w_LINED), .val (.ref w_LINED), .val (.ref b43), .val (.ref b45), .val (.int (v0_0 q0 q1 p2 p3 p4 w_LINED w_SCATTERED w_C c_C j32_0 j46_0)), .val (.ref b45), .val (.int (0 : Int32))] [(.ref b43)]))
              refine OGo.st (fun _ k => XS.aload X46.here hx rfl (hb hby at_204) rfl rfl k) ?_
              show OGo p e below s _ _ _ (T46.setTop (mkF m 206 #[.val (.long q0), .second, .val (.long q1), .second, .val (.int p2), .val (.int p3), .val (.int p4), .val (.int (f1 (1 : Int32) (p2 &&& (2147483647 : Int32)))), .val (.int j32_0), .val (.long j46_0), .second, .val (.ref w_LINED), .val (.ref w_LINED), .val (.ref b43), .val (.ref b45), .val (.int (v0_0 q0 q1 p2 p3 p4 w_LINED w_SCATTERED w_C c_C j32_0 j46_0)), .val (.ref b45), .val (.int (0 : Int32))] [(.ref b45), (.ref b43)]))
              obtain ⟨cq49, kq49, q49a, q49b, q49c⟩ := isOf hZ rfl A43_w46
              obtain ⟨_, _, ⟨T49, L49, k49, n49⟩, -, X49, ⟨Lc49, hQ49, l49, y49, z49⟩, st49⟩ := X46.virtualBack hx (y := (⟨"com/example/hazy_set/hazyset/BloomShape", "equals", "(Ljava/lang/Object;)Z"⟩ : MethodName)) (z := (⟨"com/example/hazy_set/hazyset/BloomShape", "equals", "(Ljava/lang/Object;)Z"⟩ : MethodName)) hown (mvT hZ (hw _ (List.mem_of_getElem? (i := 46) rfl))) (mvT hZ (hw _ (List.mem_of_getElem? (i := 47) rfl))) (notFace_of_selects (args := #[]) (mvT hZ (hw _ (List.mem_of_getElem? (i := 49) rfl)))) (mvT hZ (hw _ (List.mem_of_getElem? (i := 49) rfl))) (mvT hZ (hw _ (List.mem_of_getElem? (i := 48) rfl))) (by decide) (backOf (W := 0) (rm6B l Z a0 hw [] b43 b45 q0 (f1 (1 : Int32) (p2 &&& (2147483647 : Int32))) w_LINED j46_0 j32_0 w_LINED T46.heap n0 Z46 A43_w46 G44_0_w46 G44_1_w46 G44_2_w46 A45_w46 G46_0 G46_1 G46_2) hZ (hw _ (List.mem_of_getElem? (i := 50) rfl)) (hw _ (List.mem_of_getElem? (i := 10) rfl)) (by decide) (by decide)) q49a q49c (g := (mkF m 206 #[.val (.long q0), .second, .val (.long q1), .second, .val (.int p2), .val (.int p3), .val (.int p4), .val (.int (f1 (1 : Int32) (p2 &&& (2147483647 : Int32)))), .val (.int j32_0), .val (.long j46_0), .second, .val (.ref w_LINED), .val (.ref w_LINED), .val (.ref b43), .val (.ref b45), .val (.int (v0_0 q0 q1 p2 p3 p4 w_LINED w_SCATTERED w_C c_C j32_0 j46_0)), .val (.ref b45), .val (.int (0 : Int32))] [(.ref b45), (.ref b43)])) rfl (by rw [hml]; rfl) (Steps.refl _) (argsL := [(.ref b45)]) (rest := []) (lenOf pd_0_2 rfl) rfl (by show 2 * 0 + _ ≤ _; exact Nat.le_of_eq rfl) (hb hby at_206) (fun _ _ => ⟨rfl, rfl, (by decide : 2 + 0 ≤ _), (by decide : 14 + 0 ≤ _)⟩)
              dsimp only [Pt.U, Pt.locs, Pt.cells, Pt.slots] at X49 l49 y49 z49 st49 hQ49
              subst l49 y49 z49
              obtain ⟨rfl, N49q, e49⟩ := hQ49
              have N49 := Fr.app N46 N49q
              refine OGo.st (fun _ k => st49.trans k) ?_
              show OGo p e below s _ _ _ (T49.setTop (mkF m 209 #[.val (.long q0), .second, .val (.long q1), .second, .val (.int p2), .val (.int p3), .val (.int p4), .val (.int (f1 (1 : Int32) (p2 &&& (2147483647 : Int32)))), .val (.int j32_0), .val (.long j46_0), .second, .val (.ref w_LINED), .val (.ref w_LINED), .val (.ref b43), .val (.ref b45), .val (.int (v0_0 q0 q1 p2 p3 p4 w_LINED w_SCATTERED w_C c_C j32_0 j46_0)), .val (.ref b45), .val (.int (0 : Int32))] [(.int (f6B q0 (f1 (1 : Int32) (p2 &&& (2147483647 : Int32))) w_LINED j46_0 j32_0 w_LINED))]))
              refine OGo.st (fun _ k => XS.iload X49.here hx rfl (hb hby at_209) rfl k) ?_
              show OGo p e below s _ _ _ (T49.setTop (mkF m 211 #[.val (.long q0), .second, .val (.long q1), .second, .val (.int p2), .val (.int p3), .val (.int p4), .val (.int (f1 (1 : Int32) (p2 &&& (2147483647 : Int32)))), .val (.int j32_0), .val (.long j46_0), .second, .val (.ref w_LINED), .val (.ref w_LINED), .val (.ref b43), .val (.ref b45), .val (.int (v0_0 q0 q1 p2 p3 p4 w_LINED w_SCATTERED w_C c_C j32_0 j46_0)), .val (.ref b45), .val (.int (0 : Int32))] [(.int (0 : Int32)), (.int (f6B q0 (f1 (1 : Int32) (p2 &&& (2147483647 : Int32))) w_LINED j46_0 j32_0 w_LINED))]))
              by_cases hc211 : (f6B q0 (f1 (1 : Int32) (p2 &&& (2147483647 : Int32))) w_LINED j46_0 j32_0 w_LINED) = (0 : Int32)
              · refine OGo.st (fun _ k => XS.icmpNo X49.here hx rfl (hb hby at_211) rfl (teq hc211).2 k) ?_
                show OGo p e below s _ _ _ (T49.setTop (mkF m 214 #[.val (.long q0), .second, .val (.long q1), .second, .val (.int p2), .val (.int p3), .val (.int p4), .val (.int (f1 (1 : Int32) (p2 &&& (2147483647 : Int32)))), .val (.int j32_0), .val (.long j46_0), .second, .val (.ref w_LINED), .val (.ref w_LINED), .val (.ref b43), .val (.ref b45), .val (.int (v0_0 q0 q1 p2 p3 p4 w_LINED w_SCATTERED w_C c_C j32_0 j46_0)), .val (.ref b45), .val (.int (0 : Int32))] []))
                refine OGo.st (fun _ k => XS.iconst X49.here hx rfl (hb hby at_214) k) ?_
                show OGo p e below s _ _ _ (T49.setTop (mkF m 215 #[.val (.long q0), .second, .val (.long q1), .second, .val (.int p2), .val (.int p3), .val (.int p4), .val (.int (f1 (1 : Int32) (p2 &&& (2147483647 : Int32)))), .val (.int j32_0), .val (.long j46_0), .second, .val (.ref w_LINED), .val (.ref w_LINED), .val (.ref b43), .val (.ref b45), .val (.int (v0_0 q0 q1 p2 p3 p4 w_LINED w_SCATTERED w_C c_C j32_0 j46_0)), .val (.ref b45), .val (.int (0 : Int32))] [(.int (1 : Int32))]))
                refine OGo.st (fun _ k => XS.goto X49.here hx rfl (pc0 := 215) (pc' := 219) rfl (hb hby at_215) (by decide) (by decide) k) ?_
                show OGo p e below s _ _ _ (T49.setTop (mkF m 219 #[.val (.long q0), .second, .val (.long q1), .second, .val (.int p2), .val (.int p3), .val (.int p4), .val (.int (f1 (1 : Int32) (p2 &&& (2147483647 : Int32)))), .val (.int j32_0), .val (.long j46_0), .second, .val (.ref w_LINED), .val (.ref w_LINED), .val (.ref b43), .val (.ref b45), .val (.int (v0_0 q0 q1 p2 p3 p4 w_LINED w_SCATTERED w_C c_C j32_0 j46_0)), .val (.ref b45), .val (.int (0 : Int32))] [(.int (1 : Int32))]))
                exact oretN X49 hx Bd.notSynchronized (t := .boolean) Bd.returns (by simp) (hb hby at_219) (z' := (1 : Int32)) (by decide) e49 ⟨(congrArg (fun z => some (Value.int z)) (show (1 : Int32) = f0 q0 q1 p2 p3 p4 w_LINED w_SCATTERED w_C c_C from Eq.symm (hf46_0.trans (by unfold f0_46; exact (if_neg hc52).trans ((if_neg hc71).trans ((if_pos hc124).trans ((if_neg hc135).trans (if_pos hc211)))))))), N49⟩ (by decide) (by decide)
              · refine OGo.st (fun _ k => XS.icmpYes X49.here hx rfl (pc0 := 211) (pc' := 218) rfl (hb hby at_211) rfl (feq hc211).2 (by decide) (by decide) k) ?_
                show OGo p e below s _ _ _ (T49.setTop (mkF m 218 #[.val (.long q0), .second, .val (.long q1), .second, .val (.int p2), .val (.int p3), .val (.int p4), .val (.int (f1 (1 : Int32) (p2 &&& (2147483647 : Int32)))), .val (.int j32_0), .val (.long j46_0), .second, .val (.ref w_LINED), .val (.ref w_LINED), .val (.ref b43), .val (.ref b45), .val (.int (v0_0 q0 q1 p2 p3 p4 w_LINED w_SCATTERED w_C c_C j32_0 j46_0)), .val (.ref b45), .val (.int (0 : Int32))] []))
                refine OGo.st (fun _ k => XS.iconst X49.here hx rfl (hb hby at_218) k) ?_
                show OGo p e below s _ _ _ (T49.setTop (mkF m 219 #[.val (.long q0), .second, .val (.long q1), .second, .val (.int p2), .val (.int p3), .val (.int p4), .val (.int (f1 (1 : Int32) (p2 &&& (2147483647 : Int32)))), .val (.int j32_0), .val (.long j46_0), .second, .val (.ref w_LINED), .val (.ref w_LINED), .val (.ref b43), .val (.ref b45), .val (.int (v0_0 q0 q1 p2 p3 p4 w_LINED w_SCATTERED w_C c_C j32_0 j46_0)), .val (.ref b45), .val (.int (0 : Int32))] [(.int (0 : Int32))]))
                exact oretN X49 hx Bd.notSynchronized (t := .boolean) Bd.returns (by simp) (hb hby at_219) (z' := (0 : Int32)) (by decide) e49 ⟨(congrArg (fun z => some (Value.int z)) (show (0 : Int32) = f0 q0 q1 p2 p3 p4 w_LINED w_SCATTERED w_C c_C from Eq.symm (hf46_0.trans (by unfold f0_46; exact (if_neg hc52).trans ((if_neg hc71).trans ((if_pos hc124).trans ((if_neg hc135).trans (if_neg hc211)))))))), N49⟩ (by decide) (by decide)
          · refine OGo.st (fun _ k => XS.ifYes X46.here hx rfl (pc0 := 124) (pc' := 162) rfl (hb hby at_124) rfl ((if0 _ _).trans (feq hc124).2) (by decide) (by decide) k) ?_
            show OGo p e below s _ _ _ (T46.setTop (mkF m 162 #[.val (.long q0), .second, .val (.long q1), .second, .val (.int p2), .val (.int p3), .val (.int p4), .val (.int (f1 (1 : Int32) (p2 &&& (2147483647 : Int32)))), .val (.int j32_0), .val (.long j46_0), .second, .val (.ref w_LINED), .val (.ref w_LINED), .val (.ref b43), .val (.ref b45), .val (.int (v0_0 q0 q1 p2 p3 p4 w_LINED w_SCATTERED w_C c_C j32_0 j46_0)), .unset, .unset] []))
            refine OGo.st (fun _ k => XS.iload X46.here hx rfl (hb hby at_162) rfl k) ?_
            show OGo p e below s _ _ _ (T46.setTop (mkF m 164 #[.val (.long q0), .second, .val (.long q1), .second, .val (.int p2), .val (.int p3), .val (.int p4), .val (.int (f1 (1 : Int32) (p2 &&& (2147483647 : Int32)))), .val (.int j32_0), .val (.long j46_0), .second, .val (.ref w_LINED), .val (.ref w_LINED), .val (.ref b43), .val (.ref b45), .val (.int (v0_0 q0 q1 p2 p3 p4 w_LINED w_SCATTERED w_C c_C j32_0 j46_0)), .unset, .unset] [(.int (v0_0 q0 q1 p2 p3 p4 w_LINED w_SCATTERED w_C c_C j32_0 j46_0))]))
            refine OGo.st (fun _ k => XS.iconst X46.here hx rfl (hb hby at_164) k) ?_
            show OGo p e below s _ _ _ (T46.setTop (mkF m 165 #[.val (.long q0), .second, .val (.long q1), .second, .val (.int p2), .val (.int p3), .val (.int p4), .val (.int (f1 (1 : Int32) (p2 &&& (2147483647 : Int32)))), .val (.int j32_0), .val (.long j46_0), .second, .val (.ref w_LINED), .val (.ref w_LINED), .val (.ref b43), .val (.ref b45), .val (.int (v0_0 q0 q1 p2 p3 p4 w_LINED w_SCATTERED w_C c_C j32_0 j46_0)), .unset, .unset] [(.int (1 : Int32)), (.int (v0_0 q0 q1 p2 p3 p4 w_LINED w_SCATTERED w_C c_C j32_0 j46_0))]))
            by_cases hc165 : (v0_0 q0 q1 p2 p3 p4 w_LINED w_SCATTERED w_C c_C j32_0 j46_0) = (1 : Int32)
            · refine OGo.st (fun _ k => XS.icmpNo X46.here hx rfl (hb hby at_165) rfl (teq hc165).2 k) ?_
              show OGo p e below s _ _ _ (T46.setTop (mkF m 168 #[.val (.long q0), .second, .val (.long q1), .second, .val (.int p2), .val (.int p3), .val (.int p4), .val (.int (f1 (1 : Int32) (p2 &&& (2147483647 : Int32)))), .val (.int j32_0), .val (.long j46_0), .second, .val (.ref w_LINED), .val (.ref w_LINED), .val (.ref b43), .val (.ref b45), .val (.int (v0_0 q0 q1 p2 p3 p4 w_LINED w_SCATTERED w_C c_C j32_0 j46_0)), .unset, .unset] []))
              refine OGo.st (fun _ k => XS.aconstNull X46.here hx rfl (hb hby at_168) k) ?_
              show OGo p e below s _ _ _ (T46.setTop (mkF m 169 #[.val (.long q0), .second, .val (.long q1), .second, .val (.int p2), .val (.int p3), .val (.int p4), .val (.int (f1 (1 : Int32) (p2 &&& (2147483647 : Int32)))), .val (.int j32_0), .val (.long j46_0), .second, .val (.ref w_LINED), .val (.ref w_LINED), .val (.ref b43), .val (.ref b45), .val (.int (v0_0 q0 q1 p2 p3 p4 w_LINED w_SCATTERED w_C c_C j32_0 j46_0)), .unset, .unset] [.null]))
              refine OGo.st (fun _ k => XS.astore X46.here hx rfl (hb hby at_169) rfl rfl (l' := #[.val (.long q0), .second, .val (.long q1), .second, .val (.int p2), .val (.int p3), .val (.int p4), .val (.int (f1 (1 : Int32) (p2 &&& (2147483647 : Int32)))), .val (.int j32_0), .val (.long j46_0), .second, .val (.ref w_LINED), .val (.ref w_LINED), .val (.ref b43), .val (.ref b45), .val (.int (v0_0 q0 q1 p2 p3 p4 w_LINED w_SCATTERED w_C c_C j32_0 j46_0)), .val .null, .unset]) rfl k) ?_
              show OGo p e below s _ _ _ (T46.setTop (mkF m 171 #[.val (.long q0), .second, .val (.long q1), .second, .val (.int p2), .val (.int p3), .val (.int p4), .val (.int (f1 (1 : Int32) (p2 &&& (2147483647 : Int32)))), .val (.int j32_0), .val (.long j46_0), .second, .val (.ref w_LINED), .val (.ref w_LINED), .val (.ref b43), .val (.ref b45), .val (.int (v0_0 q0 q1 p2 p3 p4 w_LINED w_SCATTERED w_C c_C j32_0 j46_0)), .val .null, .unset] []))
              refine OGo.st (fun _ k => XS.iconst X46.here hx rfl (hb hby at_171) k) ?_
              show OGo p e below s _ _ _ (T46.setTop (mkF m 172 #[.val (.long q0), .second, .val (.long q1), .second, .val (.int p2), .val (.int p3), .val (.int p4), .val (.int (f1 (1 : Int32) (p2 &&& (2147483647 : Int32)))), .val (.int j32_0), .val (.long j46_0), .second, .val (.ref w_LINED), .val (.ref w_LINED), .val (.ref b43), .val (.ref b45), .val (.int (v0_0 q0 q1 p2 p3 p4 w_LINED w_SCATTERED w_C c_C j32_0 j46_0)), .val .null, .unset] [(.int (0 : Int32))]))
              refine OGo.st (fun _ k => XS.istore X46.here hx rfl (hb hby at_172) rfl (l' := #[.val (.long q0), .second, .val (.long q1), .second, .val (.int p2), .val (.int p3), .val (.int p4), .val (.int (f1 (1 : Int32) (p2 &&& (2147483647 : Int32)))), .val (.int j32_0), .val (.long j46_0), .second, .val (.ref w_LINED), .val (.ref w_LINED), .val (.ref b43), .val (.ref b45), .val (.int (v0_0 q0 q1 p2 p3 p4 w_LINED w_SCATTERED w_C c_C j32_0 j46_0)), .val .null, .val (.int (0 : Int32))]) rfl k) ?_
              show OGo p e below s _ _ _ (T46.setTop (mkF m 174 #[.val (.long q0), .second, .val (.long q1), .second, .val (.int p2), .val (.int p3), .val (.int p4), .val (.int (f1 (1 : Int32) (p2 &&& (2147483647 : Int32)))), .val (.int j32_0), .val (.long j46_0), .second, .val (.ref w_LINED), .val (.ref w_LINED), .val (.ref b43), .val (.ref b45), .val (.int (v0_0 q0 q1 p2 p3 p4 w_LINED w_SCATTERED w_C c_C j32_0 j46_0)), .val .null, .val (.int (0 : Int32))] []))
              refine OGo.st (fun _ k => XS.goto X46.here hx rfl (pc0 := 174) (pc' := 202) rfl (hb hby at_174) (by decide) (by decide) k) ?_
              show OGo p e below s _ _ _ (T46.setTop (mkF m 202 #[.val (.long q0), .second, .val (.long q1), .second, .val (.int p2), .val (.int p3), .val (.int p4), .val (.int (f1 (1 : Int32) (p2 &&& (2147483647 : Int32)))), .val (.int j32_0), .val (.long j46_0), .second, .val (.ref w_LINED), .val (.ref w_LINED), .val (.ref b43), .val (.ref b45), .val (.int (v0_0 q0 q1 p2 p3 p4 w_LINED w_SCATTERED w_C c_C j32_0 j46_0)), .val .null, .val (.int (0 : Int32))] []))
              refine OGo.st (fun _ k => XS.aload X46.here hx rfl (hb hby at_202) rfl rfl k) ?_
              show OGo p e below s _ _ _ (T46.setTop (mkF m 204 #[.val (.long q0), .second, .val (.long q1), .second, .val (.int p2), .val (.int p3), .val (.int p4), .val (.int (f1 (1 : Int32) (p2 &&& (2147483647 : Int32)))), .val (.int j32_0), .val (.long j46_0), .second, .val (.ref w_LINED), .val (.ref w_LINED), .val (.ref b43), .val (.ref b45), .val (.int (v0_0 q0 q1 p2 p3 p4 w_LINED w_SCATTERED w_C c_C j32_0 j46_0)), .val .null, .val (.int (0 : Int32))] [(.ref b43)]))
              refine OGo.st (fun _ k => XS.aload X46.here hx rfl (hb hby at_204) rfl rfl k) ?_
              show OGo p e below s _ _ _ (T46.setTop (mkF m 206 #[.val (.long q0), .second, .val (.long q1), .second, .val (.int p2), .val (.int p3), .val (.int p4), .val (.int (f1 (1 : Int32) (p2 &&& (2147483647 : Int32)))), .val (.int j32_0), .val (.long j46_0), .second, .val (.ref w_LINED), .val (.ref w_LINED), .val (.ref b43), .val (.ref b45), .val (.int (v0_0 q0 q1 p2 p3 p4 w_LINED w_SCATTERED w_C c_C j32_0 j46_0)), .val .null, .val (.int (0 : Int32))] [.null, (.ref b43)]))
              obtain ⟨cq50, kq50, q50a, q50b, q50c⟩ := isOf hZ rfl A43_w46
              obtain ⟨_, _, ⟨T50, L50, k50, n50⟩, -, X50, ⟨Lc50, hQ50, l50, y50, z50⟩, st50⟩ := X46.virtualBack hx (y := (⟨"com/example/hazy_set/hazyset/BloomShape", "equals", "(Ljava/lang/Object;)Z"⟩ : MethodName)) (z := (⟨"com/example/hazy_set/hazyset/BloomShape", "equals", "(Ljava/lang/Object;)Z"⟩ : MethodName)) hown (mvT hZ (hw _ (List.mem_of_getElem? (i := 46) rfl))) (mvT hZ (hw _ (List.mem_of_getElem? (i := 47) rfl))) (notFace_of_selects (args := #[]) (mvT hZ (hw _ (List.mem_of_getElem? (i := 49) rfl)))) (mvT hZ (hw _ (List.mem_of_getElem? (i := 49) rfl))) (mvT hZ (hw _ (List.mem_of_getElem? (i := 48) rfl))) (by decide) (backOf (W := 0) (rm6N l Z a0 hw [] b43 T46.heap n0 Z46) hZ (hw _ (List.mem_of_getElem? (i := 50) rfl)) (hw _ (List.mem_of_getElem? (i := 10) rfl)) (by decide) (by decide)) q50a q50c (g := (mkF m 206 #[.val (.long q0), .second, .val (.long q1), .second, .val (.int p2), .val (.int p3), .val (.int p4), .val (.int (f1 (1 : Int32) (p2 &&& (2147483647 : Int32)))), .val (.int j32_0), .val (.long j46_0), .second, .val (.ref w_LINED), .val (.ref w_LINED), .val (.ref b43), .val (.ref b45), .val (.int (v0_0 q0 q1 p2 p3 p4 w_LINED w_SCATTERED w_C c_C j32_0 j46_0)), .val .null, .val (.int (0 : Int32))] [.null, (.ref b43)])) rfl (by rw [hml]; rfl) (Steps.refl _) (argsL := [.null]) (rest := []) (lenOf pd_0_2 rfl) rfl (by show 2 * 0 + _ ≤ _; exact Nat.le_of_eq rfl) (hb hby at_206) (fun _ _ => ⟨rfl, rfl, (by decide : 2 + 0 ≤ _), (by decide : 14 + 0 ≤ _)⟩)
              dsimp only [Pt.U, Pt.locs, Pt.cells, Pt.slots] at X50 l50 y50 z50 st50 hQ50
              subst l50 y50 z50
              obtain ⟨rfl, N50q, e50⟩ := hQ50
              have hl50 : (f6N) = (0 : Int32) := rfl
              have N50 := Fr.app N46 N50q
              refine OGo.st (fun _ k => st50.trans k) ?_
              show OGo p e below s _ _ _ (T50.setTop (mkF m 209 #[.val (.long q0), .second, .val (.long q1), .second, .val (.int p2), .val (.int p3), .val (.int p4), .val (.int (f1 (1 : Int32) (p2 &&& (2147483647 : Int32)))), .val (.int j32_0), .val (.long j46_0), .second, .val (.ref w_LINED), .val (.ref w_LINED), .val (.ref b43), .val (.ref b45), .val (.int (v0_0 q0 q1 p2 p3 p4 w_LINED w_SCATTERED w_C c_C j32_0 j46_0)), .val .null, .val (.int (0 : Int32))] [(.int (0 : Int32))]))
              refine OGo.st (fun _ k => XS.iload X50.here hx rfl (hb hby at_209) rfl k) ?_
              show OGo p e below s _ _ _ (T50.setTop (mkF m 211 #[.val (.long q0), .second, .val (.long q1), .second, .val (.int p2), .val (.int p3), .val (.int p4), .val (.int (f1 (1 : Int32) (p2 &&& (2147483647 : Int32)))), .val (.int j32_0), .val (.long j46_0), .second, .val (.ref w_LINED), .val (.ref w_LINED), .val (.ref b43), .val (.ref b45), .val (.int (v0_0 q0 q1 p2 p3 p4 w_LINED w_SCATTERED w_C c_C j32_0 j46_0)), .val .null, .val (.int (0 : Int32))] [(.int (0 : Int32)), (.int (0 : Int32))]))
              refine OGo.st (fun _ k => XS.icmpNo X50.here hx rfl (hb hby at_211) rfl (teq (by decide : (0 : Int32) = (0 : Int32))).2 k) ?_
              show OGo p e below s _ _ _ (T50.setTop (mkF m 214 #[.val (.long q0), .second, .val (.long q1), .second, .val (.int p2), .val (.int p3), .val (.int p4), .val (.int (f1 (1 : Int32) (p2 &&& (2147483647 : Int32)))), .val (.int j32_0), .val (.long j46_0), .second, .val (.ref w_LINED), .val (.ref w_LINED), .val (.ref b43), .val (.ref b45), .val (.int (v0_0 q0 q1 p2 p3 p4 w_LINED w_SCATTERED w_C c_C j32_0 j46_0)), .val .null, .val (.int (0 : Int32))] []))
              refine OGo.st (fun _ k => XS.iconst X50.here hx rfl (hb hby at_214) k) ?_
              show OGo p e below s _ _ _ (T50.setTop (mkF m 215 #[.val (.long q0), .second, .val (.long q1), .second, .val (.int p2), .val (.int p3), .val (.int p4), .val (.int (f1 (1 : Int32) (p2 &&& (2147483647 : Int32)))), .val (.int j32_0), .val (.long j46_0), .second, .val (.ref w_LINED), .val (.ref w_LINED), .val (.ref b43), .val (.ref b45), .val (.int (v0_0 q0 q1 p2 p3 p4 w_LINED w_SCATTERED w_C c_C j32_0 j46_0)), .val .null, .val (.int (0 : Int32))] [(.int (1 : Int32))]))
              refine OGo.st (fun _ k => XS.goto X50.here hx rfl (pc0 := 215) (pc' := 219) rfl (hb hby at_215) (by decide) (by decide) k) ?_
              show OGo p e below s _ _ _ (T50.setTop (mkF m 219 #[.val (.long q0), .second, .val (.long q1), .second, .val (.int p2), .val (.int p3), .val (.int p4), .val (.int (f1 (1 : Int32) (p2 &&& (2147483647 : Int32)))), .val (.int j32_0), .val (.long j46_0), .second, .val (.ref w_LINED), .val (.ref w_LINED), .val (.ref b43), .val (.ref b45), .val (.int (v0_0 q0 q1 p2 p3 p4 w_LINED w_SCATTERED w_C c_C j32_0 j46_0)), .val .null, .val (.int (0 : Int32))] [(.int (1 : Int32))]))
              exact oretN X50 hx Bd.notSynchronized (t := .boolean) Bd.returns (by simp) (hb hby at_219) (z' := (1 : Int32)) (by decide) e50 ⟨(congrArg (fun z => some (Value.int z)) (show (1 : Int32) = f0 q0 q1 p2 p3 p4 w_LINED w_SCATTERED w_C c_C from Eq.symm (hf46_0.trans (by unfold f0_46; exact (if_neg hc52).trans ((if_neg hc71).trans ((if_neg hc124).trans (if_pos hc165))))))), N50⟩ (by decide) (by decide)
            · refine OGo.st (fun _ k => XS.icmpYes X46.here hx rfl (pc0 := 165) (pc' := 177) rfl (hb hby at_165) rfl (feq hc165).2 (by decide) (by decide) k) ?_
              show OGo p e below s _ _ _ (T46.setTop (mkF m 177 #[.val (.long q0), .second, .val (.long q1), .second, .val (.int p2), .val (.int p3), .val (.int p4), .val (.int (f1 (1 : Int32) (p2 &&& (2147483647 : Int32)))), .val (.int j32_0), .val (.long j46_0), .second, .val (.ref w_LINED), .val (.ref w_LINED), .val (.ref b43), .val (.ref b45), .val (.int (v0_0 q0 q1 p2 p3 p4 w_LINED w_SCATTERED w_C c_C j32_0 j46_0)), .unset, .unset] []))
              refine OGo.st (fun _ k => XS.iload X46.here hx rfl (hb hby at_177) rfl k) ?_
              show OGo p e below s _ _ _ (T46.setTop (mkF m 179 #[.val (.long q0), .second, .val (.long q1), .second, .val (.int p2), .val (.int p3), .val (.int p4), .val (.int (f1 (1 : Int32) (p2 &&& (2147483647 : Int32)))), .val (.int j32_0), .val (.long j46_0), .second, .val (.ref w_LINED), .val (.ref w_LINED), .val (.ref b43), .val (.ref b45), .val (.int (v0_0 q0 q1 p2 p3 p4 w_LINED w_SCATTERED w_C c_C j32_0 j46_0)), .unset, .unset] [(.int (v0_0 q0 q1 p2 p3 p4 w_LINED w_SCATTERED w_C c_C j32_0 j46_0))]))
              refine OGo.st (fun _ k => XS.iconst X46.here hx rfl (hb hby at_179) k) ?_
              show OGo p e below s _ _ _ (T46.setTop (mkF m 180 #[.val (.long q0), .second, .val (.long q1), .second, .val (.int p2), .val (.int p3), .val (.int p4), .val (.int (f1 (1 : Int32) (p2 &&& (2147483647 : Int32)))), .val (.int j32_0), .val (.long j46_0), .second, .val (.ref w_LINED), .val (.ref w_LINED), .val (.ref b43), .val (.ref b45), .val (.int (v0_0 q0 q1 p2 p3 p4 w_LINED w_SCATTERED w_C c_C j32_0 j46_0)), .unset, .unset] [(.int (2 : Int32)), (.int (v0_0 q0 q1 p2 p3 p4 w_LINED w_SCATTERED w_C c_C j32_0 j46_0))]))
              by_cases hc180 : (v0_0 q0 q1 p2 p3 p4 w_LINED w_SCATTERED w_C c_C j32_0 j46_0) = (2 : Int32)
              · refine OGo.st (fun _ k => XS.icmpNo X46.here hx rfl (hb hby at_180) rfl (teq hc180).2 k) ?_
                show OGo p e below s _ _ _ (T46.setTop (mkF m 183 #[.val (.long q0), .second, .val (.long q1), .second, .val (.int p2), .val (.int p3), .val (.int p4), .val (.int (f1 (1 : Int32) (p2 &&& (2147483647 : Int32)))), .val (.int j32_0), .val (.long j46_0), .second, .val (.ref w_LINED), .val (.ref w_LINED), .val (.ref b43), .val (.ref b45), .val (.int (v0_0 q0 q1 p2 p3 p4 w_LINED w_SCATTERED w_C c_C j32_0 j46_0)), .unset, .unset] []))
                refine OGo.st (fun _ k => XS.lloadN X46.here hx rfl (hb hby at_183) rfl k) ?_
                show OGo p e below s _ _ _ (T46.setTop (mkF m 184 #[.val (.long q0), .second, .val (.long q1), .second, .val (.int p2), .val (.int p3), .val (.int p4), .val (.int (f1 (1 : Int32) (p2 &&& (2147483647 : Int32)))), .val (.int j32_0), .val (.long j46_0), .second, .val (.ref w_LINED), .val (.ref w_LINED), .val (.ref b43), .val (.ref b45), .val (.int (v0_0 q0 q1 p2 p3 p4 w_LINED w_SCATTERED w_C c_C j32_0 j46_0)), .unset, .unset] [(.long q0)]))
                obtain ⟨_, _, ⟨T51, L51, k51, n51⟩, -, X51, ⟨Lc51, hQ51, l51, y51, z51⟩, st51⟩ := Jvm.LawKit.callS X46 hx (y := (⟨"java/lang/Long", "valueOf", "(J)Ljava/lang/Long;"⟩ : MethodName)) hown (mvT hZ (hw _ (List.mem_of_getElem? (i := 55) rfl))) (mvT hZ (hw _ (List.mem_of_getElem? (i := 56) rfl))) (mvT hZ (hw _ (List.mem_of_getElem? (i := 57) rfl))) (mvT hZ (hw _ (List.mem_of_getElem? (i := 58) rfl))) (by decide) (backOf (W := 0) (rm7 l Z a0 hw [] q0 w_C (c_C) T46.heap n0 Z46 S_C_w46 hB (hZh ▸ K46)) hZ (hw _ (List.mem_of_getElem? (i := 58) rfl)) (hw _ (List.mem_of_getElem? (i := 57) rfl)) (by decide) (by decide)) (g := (mkF m 184 #[.val (.long q0), .second, .val (.long q1), .second, .val (.int p2), .val (.int p3), .val (.int p4), .val (.int (f1 (1 : Int32) (p2 &&& (2147483647 : Int32)))), .val (.int j32_0), .val (.long j46_0), .second, .val (.ref w_LINED), .val (.ref w_LINED), .val (.ref b43), .val (.ref b45), .val (.int (v0_0 q0 q1 p2 p3 p4 w_LINED w_SCATTERED w_C c_C j32_0 j46_0)), .unset, .unset] [(.long q0)])) rfl (by rw [hml]; rfl) (argsL := [(.long q0)]) (rest := []) (lenOf pd_0_3 rfl) rfl (by show 2 * 0 + _ ≤ _; exact Nat.le_of_eq rfl) (hb hby at_184) (fun _ _ => ⟨rfl, rfl, (by decide : 2 + 1 ≤ _), (by decide : 14 + 1 ≤ _)⟩)
                dsimp only [Pt.U, Pt.locs, Pt.cells, Pt.slots] at X51 l51 y51 z51 st51 hQ51
                subst l51 y51 z51
                obtain ⟨b51, rfl, N51q, Kc51, A51⟩ := hQ51
                have S_LINED_w51 := osta_keep S_LINED_w46 Kc51 (fun _ _ _ _ => nin0)
                have S_SCATTERED_w51 := osta_keep S_SCATTERED_w46 Kc51 (fun _ _ _ _ => nin0)
                have E_LINED_w51 := E_LINED_w46.keep Kc51
                have E_SCATTERED_w51 := E_SCATTERED_w46.keep Kc51
                have O_LINED_lineShift_w51 := O_LINED_lineShift_w46.keep Kc51 nin0
                have O_LINED_ordinal_w51 := O_LINED_ordinal_w46.keep Kc51 nin0
                have O_SCATTERED_lineShift_w51 := O_SCATTERED_lineShift_w46.keep Kc51 nin0
                have O_SCATTERED_ordinal_w51 := O_SCATTERED_ordinal_w46.keep Kc51 nin0
                have S_C_w51 := osta_keep S_C_w46 Kc51 (fun _ _ _ _ => nin0)
                have A43_w51 := A43_w46.keep Kc51
                have G44_0_w51 := G44_0_w46.keep Kc51 nin0
                have G44_1_w51 := G44_1_w46.keep Kc51 nin0
                have G44_2_w51 := G44_2_w46.keep Kc51 nin0
                have A45_w51 := A45_w46.keep Kc51
                have G46_0_w51 := G46_0.keep Kc51 nin0
                have G46_1_w51 := G46_1.keep Kc51 nin0
                have G46_2_w51 := G46_2.keep Kc51 nin0
                have K51 : Keep h0 T51.heap [] := (K46).trans Kc51 all0
                have Z51 : n0 ≤ T51.heap.size := Nat.le_trans Z46 Kc51.1
                have N51 := Fr.app N46 N51q
                refine OGo.st st51 ?_
                show OGo p e below s _ _ _ (T51.setTop (mkF m 187 #[.val (.long q0), .second, .val (.long q1), .second, .val (.int p2), .val (.int p3), .val (.int p4), .val (.int (f1 (1 : Int32) (p2 &&& (2147483647 : Int32)))), .val (.int j32_0), .val (.long j46_0), .second, .val (.ref w_LINED), .val (.ref w_LINED), .val (.ref b43), .val (.ref b45), .val (.int (v0_0 q0 q1 p2 p3 p4 w_LINED w_SCATTERED w_C c_C j32_0 j46_0)), .unset, .unset] [(.ref b51)]))
                refine OGo.st (fun _ k => XS.astore X51.here hx rfl (hb hby at_187) rfl rfl (l' := #[.val (.long q0), .second, .val (.long q1), .second, .val (.int p2), .val (.int p3), .val (.int p4), .val (.int (f1 (1 : Int32) (p2 &&& (2147483647 : Int32)))), .val (.int j32_0), .val (.long j46_0), .second, .val (.ref w_LINED), .val (.ref w_LINED), .val (.ref b43), .val (.ref b45), .val (.int (v0_0 q0 q1 p2 p3 p4 w_LINED w_SCATTERED w_C c_C j32_0 j46_0)), .val (.ref b51), .unset]) rfl k) ?_
                show OGo p e below s _ _ _ (T51.setTop (mkF m 189 #[.val (.long q0), .second, .val (.long q1), .second, .val (.int p2), .val (.int p3), .val (.int p4), .val (.int (f1 (1 : Int32) (p2 &&& (2147483647 : Int32)))), .val (.int j32_0), .val (.long j46_0), .second, .val (.ref w_LINED), .val (.ref w_LINED), .val (.ref b43), .val (.ref b45), .val (.int (v0_0 q0 q1 p2 p3 p4 w_LINED w_SCATTERED w_C c_C j32_0 j46_0)), .val (.ref b51), .unset] []))
                refine OGo.st (fun _ k => XS.iconst X51.here hx rfl (hb hby at_189) k) ?_
                show OGo p e below s _ _ _ (T51.setTop (mkF m 190 #[.val (.long q0), .second, .val (.long q1), .second, .val (.int p2), .val (.int p3), .val (.int p4), .val (.int (f1 (1 : Int32) (p2 &&& (2147483647 : Int32)))), .val (.int j32_0), .val (.long j46_0), .second, .val (.ref w_LINED), .val (.ref w_LINED), .val (.ref b43), .val (.ref b45), .val (.int (v0_0 q0 q1 p2 p3 p4 w_LINED w_SCATTERED w_C c_C j32_0 j46_0)), .val (.ref b51), .unset] [(.int (0 : Int32))]))
                refine OGo.st (fun _ k => XS.istore X51.here hx rfl (hb hby at_190) rfl (l' := #[.val (.long q0), .second, .val (.long q1), .second, .val (.int p2), .val (.int p3), .val (.int p4), .val (.int (f1 (1 : Int32) (p2 &&& (2147483647 : Int32)))), .val (.int j32_0), .val (.long j46_0), .second, .val (.ref w_LINED), .val (.ref w_LINED), .val (.ref b43), .val (.ref b45), .val (.int (v0_0 q0 q1 p2 p3 p4 w_LINED w_SCATTERED w_C c_C j32_0 j46_0)), .val (.ref b51), .val (.int (0 : Int32))]) rfl k) ?_
                show OGo p e below s _ _ _ (T51.setTop (mkF m 192 #[.val (.long q0), .second, .val (.long q1), .second, .val (.int p2), .val (.int p3), .val (.int p4), .val (.int (f1 (1 : Int32) (p2 &&& (2147483647 : Int32)))), .val (.int j32_0), .val (.long j46_0), .second, .val (.ref w_LINED), .val (.ref w_LINED), .val (.ref b43), .val (.ref b45), .val (.int (v0_0 q0 q1 p2 p3 p4 w_LINED w_SCATTERED w_C c_C j32_0 j46_0)), .val (.ref b51), .val (.int (0 : Int32))] []))
                refine OGo.st (fun _ k => XS.goto X51.here hx rfl (pc0 := 192) (pc' := 202) rfl (hb hby at_192) (by decide) (by decide) k) ?_
                show OGo p e below s _ _ _ (T51.setTop (mkF m 202 #[.val (.long q0), .second, .val (.long q1), .second, .val (.int p2), .val (.int p3), .val (.int p4), .val (.int (f1 (1 : Int32) (p2 &&& (2147483647 : Int32)))), .val (.int j32_0), .val (.long j46_0), .second, .val (.ref w_LINED), .val (.ref w_LINED), .val (.ref b43), .val (.ref b45), .val (.int (v0_0 q0 q1 p2 p3 p4 w_LINED w_SCATTERED w_C c_C j32_0 j46_0)), .val (.ref b51), .val (.int (0 : Int32))] []))
                refine OGo.st (fun _ k => XS.aload X51.here hx rfl (hb hby at_202) rfl rfl k) ?_
                show OGo p e below s _ _ _ (T51.setTop (mkF m 204 #[.val (.long q0), .second, .val (.long q1), .second, .val (.int p2), .val (.int p3), .val (.int p4), .val (.int (f1 (1 : Int32) (p2 &&& (2147483647 : Int32)))), .val (.int j32_0), .val (.long j46_0), .second, .val (.ref w_LINED), .val (.ref w_LINED), .val (.ref b43), .val (.ref b45), .val (.int (v0_0 q0 q1 p2 p3 p4 w_LINED w_SCATTERED w_C c_C j32_0 j46_0)), .val (.ref b51), .val (.int (0 : Int32))] [(.ref b43)]))
                refine OGo.st (fun _ k => XS.aload X51.here hx rfl (hb hby at_204) rfl rfl k) ?_
                show OGo p e below s _ _ _ (T51.setTop (mkF m 206 #[.val (.long q0), .second, .val (.long q1), .second, .val (.int p2), .val (.int p3), .val (.int p4), .val (.int (f1 (1 : Int32) (p2 &&& (2147483647 : Int32)))), .val (.int j32_0), .val (.long j46_0), .second, .val (.ref w_LINED), .val (.ref w_LINED), .val (.ref b43), .val (.ref b45), .val (.int (v0_0 q0 q1 p2 p3 p4 w_LINED w_SCATTERED w_C c_C j32_0 j46_0)), .val (.ref b51), .val (.int (0 : Int32))] [(.ref b51), (.ref b43)]))
                obtain ⟨cq52, kq52, q52a, q52b, q52c⟩ := isOf hZ rfl A43_w51
                obtain ⟨_, _, ⟨T52, L52, k52, n52⟩, -, X52, ⟨Lc52, hQ52, l52, y52, z52⟩, st52⟩ := X51.virtualBack hx (y := (⟨"com/example/hazy_set/hazyset/BloomShape", "equals", "(Ljava/lang/Object;)Z"⟩ : MethodName)) (z := (⟨"com/example/hazy_set/hazyset/BloomShape", "equals", "(Ljava/lang/Object;)Z"⟩ : MethodName)) hown (mvT hZ (hw _ (List.mem_of_getElem? (i := 46) rfl))) (mvT hZ (hw _ (List.mem_of_getElem? (i := 47) rfl))) (notFace_of_selects (args := #[]) (mvT hZ (hw _ (List.mem_of_getElem? (i := 49) rfl)))) (mvT hZ (hw _ (List.mem_of_getElem? (i := 49) rfl))) (mvT hZ (hw _ (List.mem_of_getElem? (i := 48) rfl))) (by decide) (backOf (W := 0) (rm6G l Z a0 hw [] b43 b51 T51.heap n0 Z51 A51) hZ (hw _ (List.mem_of_getElem? (i := 50) rfl)) (hw _ (List.mem_of_getElem? (i := 10) rfl)) (by decide) (by decide)) q52a q52c (g := (mkF m 206 #[.val (.long q0), .second, .val (.long q1), .second, .val (.int p2), .val (.int p3), .val (.int p4), .val (.int (f1 (1 : Int32) (p2 &&& (2147483647 : Int32)))), .val (.int j32_0), .val (.long j46_0), .second, .val (.ref w_LINED), .val (.ref w_LINED), .val (.ref b43), .val (.ref b45), .val (.int (v0_0 q0 q1 p2 p3 p4 w_LINED w_SCATTERED w_C c_C j32_0 j46_0)), .val (.ref b51), .val (.int (0 : Int32))] [(.ref b51), (.ref b43)])) rfl (by rw [hml]; rfl) (Steps.refl _) (argsL := [(.ref b51)]) (rest := []) (lenOf pd_0_2 rfl) rfl (by show 2 * 0 + _ ≤ _; exact Nat.le_of_eq rfl) (hb hby at_206) (fun _ _ => ⟨rfl, rfl, (by decide : 3 + 0 ≤ _), (by decide : 15 + 0 ≤ _)⟩)
                dsimp only [Pt.U, Pt.locs, Pt.cells, Pt.slots] at X52 l52 y52 z52 st52 hQ52
                subst l52 y52 z52
                obtain ⟨rfl, N52q, e52⟩ := hQ52
                have hl52 : (f6G) = (0 : Int32) := rfl
                have N52 := Fr.app N51 N52q
                refine OGo.st (fun _ k => st52.trans k) ?_
                show OGo p e below s _ _ _ (T52.setTop (mkF m 209 #[.val (.long q0), .second, .val (.long q1), .second, .val (.int p2), .val (.int p3), .val (.int p4), .val (.int (f1 (1 : Int32) (p2 &&& (2147483647 : Int32)))), .val (.int j32_0), .val (.long j46_0), .second, .val (.ref w_LINED), .val (.ref w_LINED), .val (.ref b43), .val (.ref b45), .val (.int (v0_0 q0 q1 p2 p3 p4 w_LINED w_SCATTERED w_C c_C j32_0 j46_0)), .val (.ref b51), .val (.int (0 : Int32))] [(.int (0 : Int32))]))
                refine OGo.st (fun _ k => XS.iload X52.here hx rfl (hb hby at_209) rfl k) ?_
                show OGo p e below s _ _ _ (T52.setTop (mkF m 211 #[.val (.long q0), .second, .val (.long q1), .second, .val (.int p2), .val (.int p3), .val (.int p4), .val (.int (f1 (1 : Int32) (p2 &&& (2147483647 : Int32)))), .val (.int j32_0), .val (.long j46_0), .second, .val (.ref w_LINED), .val (.ref w_LINED), .val (.ref b43), .val (.ref b45), .val (.int (v0_0 q0 q1 p2 p3 p4 w_LINED w_SCATTERED w_C c_C j32_0 j46_0)), .val (.ref b51), .val (.int (0 : Int32))] [(.int (0 : Int32)), (.int (0 : Int32))]))
                refine OGo.st (fun _ k => XS.icmpNo X52.here hx rfl (hb hby at_211) rfl (teq (by decide : (0 : Int32) = (0 : Int32))).2 k) ?_
                show OGo p e below s _ _ _ (T52.setTop (mkF m 214 #[.val (.long q0), .second, .val (.long q1), .second, .val (.int p2), .val (.int p3), .val (.int p4), .val (.int (f1 (1 : Int32) (p2 &&& (2147483647 : Int32)))), .val (.int j32_0), .val (.long j46_0), .second, .val (.ref w_LINED), .val (.ref w_LINED), .val (.ref b43), .val (.ref b45), .val (.int (v0_0 q0 q1 p2 p3 p4 w_LINED w_SCATTERED w_C c_C j32_0 j46_0)), .val (.ref b51), .val (.int (0 : Int32))] []))
                refine OGo.st (fun _ k => XS.iconst X52.here hx rfl (hb hby at_214) k) ?_
                show OGo p e below s _ _ _ (T52.setTop (mkF m 215 #[.val (.long q0), .second, .val (.long q1), .second, .val (.int p2), .val (.int p3), .val (.int p4), .val (.int (f1 (1 : Int32) (p2 &&& (2147483647 : Int32)))), .val (.int j32_0), .val (.long j46_0), .second, .val (.ref w_LINED), .val (.ref w_LINED), .val (.ref b43), .val (.ref b45), .val (.int (v0_0 q0 q1 p2 p3 p4 w_LINED w_SCATTERED w_C c_C j32_0 j46_0)), .val (.ref b51), .val (.int (0 : Int32))] [(.int (1 : Int32))]))
                refine OGo.st (fun _ k => XS.goto X52.here hx rfl (pc0 := 215) (pc' := 219) rfl (hb hby at_215) (by decide) (by decide) k) ?_
                show OGo p e below s _ _ _ (T52.setTop (mkF m 219 #[.val (.long q0), .second, .val (.long q1), .second, .val (.int p2), .val (.int p3), .val (.int p4), .val (.int (f1 (1 : Int32) (p2 &&& (2147483647 : Int32)))), .val (.int j32_0), .val (.long j46_0), .second, .val (.ref w_LINED), .val (.ref w_LINED), .val (.ref b43), .val (.ref b45), .val (.int (v0_0 q0 q1 p2 p3 p4 w_LINED w_SCATTERED w_C c_C j32_0 j46_0)), .val (.ref b51), .val (.int (0 : Int32))] [(.int (1 : Int32))]))
                exact oretN X52 hx Bd.notSynchronized (t := .boolean) Bd.returns (by simp) (hb hby at_219) (z' := (1 : Int32)) (by decide) e52 ⟨(congrArg (fun z => some (Value.int z)) (show (1 : Int32) = f0 q0 q1 p2 p3 p4 w_LINED w_SCATTERED w_C c_C from Eq.symm (hf46_0.trans (by unfold f0_46; exact (if_neg hc52).trans ((if_neg hc71).trans ((if_neg hc124).trans ((if_neg hc165).trans (if_pos hc180)))))))), N52⟩ (by decide) (by decide)
              · refine OGo.st (fun _ k => XS.icmpYes X46.here hx rfl (pc0 := 180) (pc' := 195) rfl (hb hby at_180) rfl (feq hc180).2 (by decide) (by decide) k) ?_
                show OGo p e below s _ _ _ (T46.setTop (mkF m 195 #[.val (.long q0), .second, .val (.long q1), .second, .val (.int p2), .val (.int p3), .val (.int p4), .val (.int (f1 (1 : Int32) (p2 &&& (2147483647 : Int32)))), .val (.int j32_0), .val (.long j46_0), .second, .val (.ref w_LINED), .val (.ref w_LINED), .val (.ref b43), .val (.ref b45), .val (.int (v0_0 q0 q1 p2 p3 p4 w_LINED w_SCATTERED w_C c_C j32_0 j46_0)), .unset, .unset] []))
                refine OGo.st (fun _ k => XS.aload X46.here hx rfl (hb hby at_195) rfl rfl k) ?_
                show OGo p e below s _ _ _ (T46.setTop (mkF m 197 #[.val (.long q0), .second, .val (.long q1), .second, .val (.int p2), .val (.int p3), .val (.int p4), .val (.int (f1 (1 : Int32) (p2 &&& (2147483647 : Int32)))), .val (.int j32_0), .val (.long j46_0), .second, .val (.ref w_LINED), .val (.ref w_LINED), .val (.ref b43), .val (.ref b45), .val (.int (v0_0 q0 q1 p2 p3 p4 w_LINED w_SCATTERED w_C c_C j32_0 j46_0)), .unset, .unset] [(.ref b43)]))
                refine OGo.st (fun _ k => XS.astore X46.here hx rfl (hb hby at_197) rfl rfl (l' := #[.val (.long q0), .second, .val (.long q1), .second, .val (.int p2), .val (.int p3), .val (.int p4), .val (.int (f1 (1 : Int32) (p2 &&& (2147483647 : Int32)))), .val (.int j32_0), .val (.long j46_0), .second, .val (.ref w_LINED), .val (.ref w_LINED), .val (.ref b43), .val (.ref b45), .val (.int (v0_0 q0 q1 p2 p3 p4 w_LINED w_SCATTERED w_C c_C j32_0 j46_0)), .val (.ref b43), .unset]) rfl k) ?_
                show OGo p e below s _ _ _ (T46.setTop (mkF m 199 #[.val (.long q0), .second, .val (.long q1), .second, .val (.int p2), .val (.int p3), .val (.int p4), .val (.int (f1 (1 : Int32) (p2 &&& (2147483647 : Int32)))), .val (.int j32_0), .val (.long j46_0), .second, .val (.ref w_LINED), .val (.ref w_LINED), .val (.ref b43), .val (.ref b45), .val (.int (v0_0 q0 q1 p2 p3 p4 w_LINED w_SCATTERED w_C c_C j32_0 j46_0)), .val (.ref b43), .unset] []))
                refine OGo.st (fun _ k => XS.iconst X46.here hx rfl (hb hby at_199) k) ?_
                show OGo p e below s _ _ _ (T46.setTop (mkF m 200 #[.val (.long q0), .second, .val (.long q1), .second, .val (.int p2), .val (.int p3), .val (.int p4), .val (.int (f1 (1 : Int32) (p2 &&& (2147483647 : Int32)))), .val (.int j32_0), .val (.long j46_0), .second, .val (.ref w_LINED), .val (.ref w_LINED), .val (.ref b43), .val (.ref b45), .val (.int (v0_0 q0 q1 p2 p3 p4 w_LINED w_SCATTERED w_C c_C j32_0 j46_0)), .val (.ref b43), .unset] [(.int (1 : Int32))]))
                refine OGo.st (fun _ k => XS.istore X46.here hx rfl (hb hby at_200) rfl (l' := #[.val (.long q0), .second, .val (.long q1), .second, .val (.int p2), .val (.int p3), .val (.int p4), .val (.int (f1 (1 : Int32) (p2 &&& (2147483647 : Int32)))), .val (.int j32_0), .val (.long j46_0), .second, .val (.ref w_LINED), .val (.ref w_LINED), .val (.ref b43), .val (.ref b45), .val (.int (v0_0 q0 q1 p2 p3 p4 w_LINED w_SCATTERED w_C c_C j32_0 j46_0)), .val (.ref b43), .val (.int (1 : Int32))]) rfl k) ?_
                show OGo p e below s _ _ _ (T46.setTop (mkF m 202 #[.val (.long q0), .second, .val (.long q1), .second, .val (.int p2), .val (.int p3), .val (.int p4), .val (.int (f1 (1 : Int32) (p2 &&& (2147483647 : Int32)))), .val (.int j32_0), .val (.long j46_0), .second, .val (.ref w_LINED), .val (.ref w_LINED), .val (.ref b43), .val (.ref b45), .val (.int (v0_0 q0 q1 p2 p3 p4 w_LINED w_SCATTERED w_C c_C j32_0 j46_0)), .val (.ref b43), .val (.int (1 : Int32))] []))
                refine OGo.st (fun _ k => XS.aload X46.here hx rfl (hb hby at_202) rfl rfl k) ?_
                show OGo p e below s _ _ _ (T46.setTop (mkF m 204 #[.val (.long q0), .second, .val (.long q1), .second, .val (.int p2), .val (.int p3), .val (.int p4), .val (.int (f1 (1 : Int32) (p2 &&& (2147483647 : Int32)))), .val (.int j32_0), .val (.long j46_0), .second, .val (.ref w_LINED), .val (.ref w_LINED), .val (.ref b43), .val (.ref b45), .val (.int (v0_0 q0 q1 p2 p3 p4 w_LINED w_SCATTERED w_C c_C j32_0 j46_0)), .val (.ref b43), .val (.int (1 : Int32))] [(.ref b43)]))
                refine OGo.st (fun _ k => XS.aload X46.here hx rfl (hb hby at_204) rfl rfl k) ?_
                show OGo p e below s _ _ _ (T46.setTop (mkF m 206 #[.val (.long q0), .second, .val (.long q1), .second, .val (.int p2), .val (.int p3), .val (.int p4), .val (.int (f1 (1 : Int32) (p2 &&& (2147483647 : Int32)))), .val (.int j32_0), .val (.long j46_0), .second, .val (.ref w_LINED), .val (.ref w_LINED), .val (.ref b43), .val (.ref b45), .val (.int (v0_0 q0 q1 p2 p3 p4 w_LINED w_SCATTERED w_C c_C j32_0 j46_0)), .val (.ref b43), .val (.int (1 : Int32))] [(.ref b43), (.ref b43)]))
                obtain ⟨cq53, kq53, q53a, q53b, q53c⟩ := isOf hZ rfl A43_w46
                obtain ⟨_, _, ⟨T53, L53, k53, n53⟩, -, X53, ⟨Lc53, hQ53, l53, y53, z53⟩, st53⟩ := X46.virtualBack hx (y := (⟨"com/example/hazy_set/hazyset/BloomShape", "equals", "(Ljava/lang/Object;)Z"⟩ : MethodName)) (z := (⟨"com/example/hazy_set/hazyset/BloomShape", "equals", "(Ljava/lang/Object;)Z"⟩ : MethodName)) hown (mvT hZ (hw _ (List.mem_of_getElem? (i := 46) rfl))) (mvT hZ (hw _ (List.mem_of_getElem? (i := 47) rfl))) (notFace_of_selects (args := #[]) (mvT hZ (hw _ (List.mem_of_getElem? (i := 49) rfl)))) (mvT hZ (hw _ (List.mem_of_getElem? (i := 49) rfl))) (mvT hZ (hw _ (List.mem_of_getElem? (i := 48) rfl))) (by decide) (backOf (W := 0) (rm6B l Z a0 hw [] b43 b43 q0 (f1 (1 : Int32) (p2 &&& (2147483647 : Int32))) w_LINED q0 (f1 (1 : Int32) (p2 &&& (2147483647 : Int32))) w_LINED T46.heap n0 Z46 A43_w46 G44_0_w46 G44_1_w46 G44_2_w46 A43_w46 G44_0_w46 G44_1_w46 G44_2_w46) hZ (hw _ (List.mem_of_getElem? (i := 50) rfl)) (hw _ (List.mem_of_getElem? (i := 10) rfl)) (by decide) (by decide)) q53a q53c (g := (mkF m 206 #[.val (.long q0), .second, .val (.long q1), .second, .val (.int p2), .val (.int p3), .val (.int p4), .val (.int (f1 (1 : Int32) (p2 &&& (2147483647 : Int32)))), .val (.int j32_0), .val (.long j46_0), .second, .val (.ref w_LINED), .val (.ref w_LINED), .val (.ref b43), .val (.ref b45), .val (.int (v0_0 q0 q1 p2 p3 p4 w_LINED w_SCATTERED w_C c_C j32_0 j46_0)), .val (.ref b43), .val (.int (1 : Int32))] [(.ref b43), (.ref b43)])) rfl (by rw [hml]; rfl) (Steps.refl _) (argsL := [(.ref b43)]) (rest := []) (lenOf pd_0_2 rfl) rfl (by show 2 * 0 + _ ≤ _; exact Nat.le_of_eq rfl) (hb hby at_206) (fun _ _ => ⟨rfl, rfl, (by decide : 2 + 0 ≤ _), (by decide : 14 + 0 ≤ _)⟩)
                dsimp only [Pt.U, Pt.locs, Pt.cells, Pt.slots] at X53 l53 y53 z53 st53 hQ53
                subst l53 y53 z53
                obtain ⟨rfl, N53q, e53⟩ := hQ53
                have N53 := Fr.app N46 N53q
                refine OGo.st (fun _ k => st53.trans k) ?_
                show OGo p e below s _ _ _ (T53.setTop (mkF m 209 #[.val (.long q0), .second, .val (.long q1), .second, .val (.int p2), .val (.int p3), .val (.int p4), .val (.int (f1 (1 : Int32) (p2 &&& (2147483647 : Int32)))), .val (.int j32_0), .val (.long j46_0), .second, .val (.ref w_LINED), .val (.ref w_LINED), .val (.ref b43), .val (.ref b45), .val (.int (v0_0 q0 q1 p2 p3 p4 w_LINED w_SCATTERED w_C c_C j32_0 j46_0)), .val (.ref b43), .val (.int (1 : Int32))] [(.int (f6B q0 (f1 (1 : Int32) (p2 &&& (2147483647 : Int32))) w_LINED q0 (f1 (1 : Int32) (p2 &&& (2147483647 : Int32))) w_LINED))]))
                refine OGo.st (fun _ k => XS.iload X53.here hx rfl (hb hby at_209) rfl k) ?_
                show OGo p e below s _ _ _ (T53.setTop (mkF m 211 #[.val (.long q0), .second, .val (.long q1), .second, .val (.int p2), .val (.int p3), .val (.int p4), .val (.int (f1 (1 : Int32) (p2 &&& (2147483647 : Int32)))), .val (.int j32_0), .val (.long j46_0), .second, .val (.ref w_LINED), .val (.ref w_LINED), .val (.ref b43), .val (.ref b45), .val (.int (v0_0 q0 q1 p2 p3 p4 w_LINED w_SCATTERED w_C c_C j32_0 j46_0)), .val (.ref b43), .val (.int (1 : Int32))] [(.int (1 : Int32)), (.int (f6B q0 (f1 (1 : Int32) (p2 &&& (2147483647 : Int32))) w_LINED q0 (f1 (1 : Int32) (p2 &&& (2147483647 : Int32))) w_LINED))]))
                by_cases hc211 : (f6B q0 (f1 (1 : Int32) (p2 &&& (2147483647 : Int32))) w_LINED q0 (f1 (1 : Int32) (p2 &&& (2147483647 : Int32))) w_LINED) = (1 : Int32)
                · refine OGo.st (fun _ k => XS.icmpNo X53.here hx rfl (hb hby at_211) rfl (teq hc211).2 k) ?_
                  show OGo p e below s _ _ _ (T53.setTop (mkF m 214 #[.val (.long q0), .second, .val (.long q1), .second, .val (.int p2), .val (.int p3), .val (.int p4), .val (.int (f1 (1 : Int32) (p2 &&& (2147483647 : Int32)))), .val (.int j32_0), .val (.long j46_0), .second, .val (.ref w_LINED), .val (.ref w_LINED), .val (.ref b43), .val (.ref b45), .val (.int (v0_0 q0 q1 p2 p3 p4 w_LINED w_SCATTERED w_C c_C j32_0 j46_0)), .val (.ref b43), .val (.int (1 : Int32))] []))
                  refine OGo.st (fun _ k => XS.iconst X53.here hx rfl (hb hby at_214) k) ?_
                  show OGo p e below s _ _ _ (T53.setTop (mkF m 215 #[.val (.long q0), .second, .val (.long q1), .second, .val (.int p2), .val (.int p3), .val (.int p4), .val (.int (f1 (1 : Int32) (p2 &&& (2147483647 : Int32)))), .val (.int j32_0), .val (.long j46_0), .second, .val (.ref w_LINED), .val (.ref w_LINED), .val (.ref b43), .val (.ref b45), .val (.int (v0_0 q0 q1 p2 p3 p4 w_LINED w_SCATTERED w_C c_C j32_0 j46_0)), .val (.ref b43), .val (.int (1 : Int32))] [(.int (1 : Int32))]))
                  refine OGo.st (fun _ k => XS.goto X53.here hx rfl (pc0 := 215) (pc' := 219) rfl (hb hby at_215) (by decide) (by decide) k) ?_
                  show OGo p e below s _ _ _ (T53.setTop (mkF m 219 #[.val (.long q0), .second, .val (.long q1), .second, .val (.int p2), .val (.int p3), .val (.int p4), .val (.int (f1 (1 : Int32) (p2 &&& (2147483647 : Int32)))), .val (.int j32_0), .val (.long j46_0), .second, .val (.ref w_LINED), .val (.ref w_LINED), .val (.ref b43), .val (.ref b45), .val (.int (v0_0 q0 q1 p2 p3 p4 w_LINED w_SCATTERED w_C c_C j32_0 j46_0)), .val (.ref b43), .val (.int (1 : Int32))] [(.int (1 : Int32))]))
                  exact oretN X53 hx Bd.notSynchronized (t := .boolean) Bd.returns (by simp) (hb hby at_219) (z' := (1 : Int32)) (by decide) e53 ⟨(congrArg (fun z => some (Value.int z)) (show (1 : Int32) = f0 q0 q1 p2 p3 p4 w_LINED w_SCATTERED w_C c_C from Eq.symm (hf46_0.trans (by unfold f0_46; exact (if_neg hc52).trans ((if_neg hc71).trans ((if_neg hc124).trans ((if_neg hc165).trans ((if_neg hc180).trans (if_pos hc211))))))))), N53⟩ (by decide) (by decide)
                · refine OGo.st (fun _ k => XS.icmpYes X53.here hx rfl (pc0 := 211) (pc' := 218) rfl (hb hby at_211) rfl (feq hc211).2 (by decide) (by decide) k) ?_
                  show OGo p e below s _ _ _ (T53.setTop (mkF m 218 #[.val (.long q0), .second, .val (.long q1), .second, .val (.int p2), .val (.int p3), .val (.int p4), .val (.int (f1 (1 : Int32) (p2 &&& (2147483647 : Int32)))), .val (.int j32_0), .val (.long j46_0), .second, .val (.ref w_LINED), .val (.ref w_LINED), .val (.ref b43), .val (.ref b45), .val (.int (v0_0 q0 q1 p2 p3 p4 w_LINED w_SCATTERED w_C c_C j32_0 j46_0)), .val (.ref b43), .val (.int (1 : Int32))] []))
                  refine OGo.st (fun _ k => XS.iconst X53.here hx rfl (hb hby at_218) k) ?_
                  show OGo p e below s _ _ _ (T53.setTop (mkF m 219 #[.val (.long q0), .second, .val (.long q1), .second, .val (.int p2), .val (.int p3), .val (.int p4), .val (.int (f1 (1 : Int32) (p2 &&& (2147483647 : Int32)))), .val (.int j32_0), .val (.long j46_0), .second, .val (.ref w_LINED), .val (.ref w_LINED), .val (.ref b43), .val (.ref b45), .val (.int (v0_0 q0 q1 p2 p3 p4 w_LINED w_SCATTERED w_C c_C j32_0 j46_0)), .val (.ref b43), .val (.int (1 : Int32))] [(.int (0 : Int32))]))
                  exact oretN X53 hx Bd.notSynchronized (t := .boolean) Bd.returns (by simp) (hb hby at_219) (z' := (0 : Int32)) (by decide) e53 ⟨(congrArg (fun z => some (Value.int z)) (show (0 : Int32) = f0 q0 q1 p2 p3 p4 w_LINED w_SCATTERED w_C c_C from Eq.symm (hf46_0.trans (by unfold f0_46; exact (if_neg hc52).trans ((if_neg hc71).trans ((if_neg hc124).trans ((if_neg hc165).trans ((if_neg hc180).trans (if_neg hc211))))))))), N53⟩ (by decide) (by decide)
    by_cases hc38 : (p4 &&& (1 : Int32)) = (0 : Int32)
    · refine OGo.st (fun _ k => XS.ifYes X2.here hx rfl (pc0 := 38) (pc' := 45) rfl (hb hby at_38) rfl ((if0 _ _).trans (teq hc38).1) (by decide) (by decide) k) ?_
      show OGo p e below s _ _ _ (T2.setTop (mkF m 45 #[.val (.long q0), .second, .val (.long q1), .second, .val (.int p2), .val (.int p3), .val (.int p4), .val (.int (f1 (1 : Int32) (p2 &&& (2147483647 : Int32)))), .val (.int j32_0), .unset, .unset, .unset, .unset, .unset, .unset, .unset, .unset, .unset] []))
      refine OGo.st (fun _ k => XS.lloadN X2.here hx rfl (hb hby at_45) rfl k) ?_
      show OGo p e below s _ _ _ (T2.setTop (mkF m 46 #[.val (.long q0), .second, .val (.long q1), .second, .val (.int p2), .val (.int p3), .val (.int p4), .val (.int (f1 (1 : Int32) (p2 &&& (2147483647 : Int32)))), .val (.int j32_0), .unset, .unset, .unset, .unset, .unset, .unset, .unset, .unset, .unset] [(.long q1)]))
      exact hj46 q1 (hf32_0.trans (by unfold f0_32; exact if_pos hc38))
    · refine OGo.st (fun _ k => XS.ifNo X2.here hx rfl (hb hby at_38) rfl ((if0 _ _).trans (feq hc38).1) k) ?_
      show OGo p e below s _ _ _ (T2.setTop (mkF m 41 #[.val (.long q0), .second, .val (.long q1), .second, .val (.int p2), .val (.int p3), .val (.int p4), .val (.int (f1 (1 : Int32) (p2 &&& (2147483647 : Int32)))), .val (.int j32_0), .unset, .unset, .unset, .unset, .unset, .unset, .unset, .unset, .unset] []))
      refine OGo.st (fun _ k => XS.lloadN X2.here hx rfl (hb hby at_41) rfl k) ?_
      show OGo p e below s _ _ _ (T2.setTop (mkF m 42 #[.val (.long q0), .second, .val (.long q1), .second, .val (.int p2), .val (.int p3), .val (.int p4), .val (.int (f1 (1 : Int32) (p2 &&& (2147483647 : Int32)))), .val (.int j32_0), .unset, .unset, .unset, .unset, .unset, .unset, .unset, .unset, .unset] [(.long q0)]))
      refine OGo.st (fun _ k => XS.goto X2.here hx rfl (pc0 := 42) (pc' := 46) rfl (hb hby at_42) (by decide) (by decide) k) ?_
      show OGo p e below s _ _ _ (T2.setTop (mkF m 46 #[.val (.long q0), .second, .val (.long q1), .second, .val (.int p2), .val (.int p3), .val (.int p4), .val (.int (f1 (1 : Int32) (p2 &&& (2147483647 : Int32)))), .val (.int j32_0), .unset, .unset, .unset, .unset, .unset, .unset, .unset, .unset, .unset] [(.long q0)]))
      exact hj46 q0 (hf32_0.trans (by unfold f0_32; exact if_neg hc38))
  by_cases hc15 : (p4 &&& (2 : Int32)) = (0 : Int32)
  · refine OGo.st (fun _ k => XS.ifYes X1.here hx rfl (pc0 := 15) (pc' := 23) rfl (hb hby at_15) rfl ((if0 _ _).trans (teq hc15).1) (by decide) (by decide) k) ?_
    show OGo p e below s _ _ _ (T1.setTop (mkF m 23 #[.val (.long q0), .second, .val (.long q1), .second, .val (.int p2), .val (.int p3), .val (.int p4), .val (.int (f1 (1 : Int32) (p2 &&& (2147483647 : Int32)))), .unset, .unset, .unset, .unset, .unset, .unset, .unset, .unset, .unset, .unset] []))
    refine OGo.st (fun _ k => XS.iconst X1.here hx rfl (hb hby at_23) k) ?_
    show OGo p e below s _ _ _ (T1.setTop (mkF m 24 #[.val (.long q0), .second, .val (.long q1), .second, .val (.int p2), .val (.int p3), .val (.int p4), .val (.int (f1 (1 : Int32) (p2 &&& (2147483647 : Int32)))), .unset, .unset, .unset, .unset, .unset, .unset, .unset, .unset, .unset, .unset] [(.int (1 : Int32))]))
    refine OGo.st (fun _ k => XS.iload X1.here hx rfl (hb hby at_24) rfl k) ?_
    show OGo p e below s _ _ _ (T1.setTop (mkF m 26 #[.val (.long q0), .second, .val (.long q1), .second, .val (.int p2), .val (.int p3), .val (.int p4), .val (.int (f1 (1 : Int32) (p2 &&& (2147483647 : Int32)))), .unset, .unset, .unset, .unset, .unset, .unset, .unset, .unset, .unset, .unset] [(.int p3), (.int (1 : Int32))]))
    refine OGo.st (fun _ k => X1.ldcInt hx hown (mvT hZ (hw _ (List.mem_of_getElem? (i := 0) rfl))) (g := (mkF m 26 #[.val (.long q0), .second, .val (.long q1), .second, .val (.int p2), .val (.int p3), .val (.int p4), .val (.int (f1 (1 : Int32) (p2 &&& (2147483647 : Int32)))), .unset, .unset, .unset, .unset, .unset, .unset, .unset, .unset, .unset, .unset] [(.int p3), (.int (1 : Int32))])) rfl (hb hby at_26) _ k) ?_
    show OGo p e below s _ _ _ (T1.setTop (mkF m 28 #[.val (.long q0), .second, .val (.long q1), .second, .val (.int p2), .val (.int p3), .val (.int p4), .val (.int (f1 (1 : Int32) (p2 &&& (2147483647 : Int32)))), .unset, .unset, .unset, .unset, .unset, .unset, .unset, .unset, .unset, .unset] [(.int (2147483647 : Int32)), (.int p3), (.int (1 : Int32))]))
    refine OGo.st (fun _ k => XS.iand X1.here hx rfl (hb hby at_28) rfl k) ?_
    show OGo p e below s _ _ _ (T1.setTop (mkF m 29 #[.val (.long q0), .second, .val (.long q1), .second, .val (.int p2), .val (.int p3), .val (.int p4), .val (.int (f1 (1 : Int32) (p2 &&& (2147483647 : Int32)))), .unset, .unset, .unset, .unset, .unset, .unset, .unset, .unset, .unset, .unset] [(.int (p3 &&& (2147483647 : Int32))), (.int (1 : Int32))]))
    obtain ⟨_, _, ⟨T54, L54, k54, n54⟩, -, X54, ⟨Lc54, hQ54, l54, y54, z54⟩, st54⟩ := Jvm.LawKit.callS X1 hx (y := (⟨"java/lang/Math", "max", "(II)I"⟩ : MethodName)) hown (mvT hZ (hw _ (List.mem_of_getElem? (i := 1) rfl))) (mvT hZ (hw _ (List.mem_of_getElem? (i := 2) rfl))) (mvT hZ (hw _ (List.mem_of_getElem? (i := 3) rfl))) (mvT hZ (hw _ (List.mem_of_getElem? (i := 4) rfl))) (by decide) (backOf (W := 0) (rm1 l Z a0 hw [] (1 : Int32) (p3 &&& (2147483647 : Int32)) h0 n0 Z0) hZ (hw _ (List.mem_of_getElem? (i := 4) rfl)) (hw _ (List.mem_of_getElem? (i := 3) rfl)) (by decide) (by decide)) (g := (mkF m 29 #[.val (.long q0), .second, .val (.long q1), .second, .val (.int p2), .val (.int p3), .val (.int p4), .val (.int (f1 (1 : Int32) (p2 &&& (2147483647 : Int32)))), .unset, .unset, .unset, .unset, .unset, .unset, .unset, .unset, .unset, .unset] [(.int (p3 &&& (2147483647 : Int32))), (.int (1 : Int32))])) rfl (by rw [hml]; rfl) (argsL := [(.int (1 : Int32)), (.int (p3 &&& (2147483647 : Int32)))]) (rest := []) (lenOf pd_0_0 rfl) rfl (by show 2 * 0 + _ ≤ _; exact Nat.le_of_eq rfl) (hb hby at_29) (fun _ _ => ⟨rfl, e1, (by decide : 0 + 0 ≤ _), (by decide : 0 + 0 ≤ _)⟩)
    dsimp only [Pt.U, Pt.locs, Pt.cells, Pt.slots] at X54 l54 y54 z54 st54 hQ54
    subst l54 y54 z54
    obtain ⟨rfl, N54q, e54⟩ := hQ54
    have N54 := Fr.app N1 N54q
    refine OGo.st st54 ?_
    show OGo p e below s _ _ _ (T54.setTop (mkF m 32 #[.val (.long q0), .second, .val (.long q1), .second, .val (.int p2), .val (.int p3), .val (.int p4), .val (.int (f1 (1 : Int32) (p2 &&& (2147483647 : Int32)))), .unset, .unset, .unset, .unset, .unset, .unset, .unset, .unset, .unset, .unset] [(.int (f1 (1 : Int32) (p3 &&& (2147483647 : Int32))))]))
    exact hj32 T54 _ X54 e54 N54 (f1 (1 : Int32) (p3 &&& (2147483647 : Int32))) (own_pos _) (by unfold f0; exact if_pos hc15)
  · refine OGo.st (fun _ k => XS.ifNo X1.here hx rfl (hb hby at_15) rfl ((if0 _ _).trans (feq hc15).1) k) ?_
    show OGo p e below s _ _ _ (T1.setTop (mkF m 18 #[.val (.long q0), .second, .val (.long q1), .second, .val (.int p2), .val (.int p3), .val (.int p4), .val (.int (f1 (1 : Int32) (p2 &&& (2147483647 : Int32)))), .unset, .unset, .unset, .unset, .unset, .unset, .unset, .unset, .unset, .unset] []))
    refine OGo.st (fun _ k => XS.iload X1.here hx rfl (hb hby at_18) rfl k) ?_
    show OGo p e below s _ _ _ (T1.setTop (mkF m 20 #[.val (.long q0), .second, .val (.long q1), .second, .val (.int p2), .val (.int p3), .val (.int p4), .val (.int (f1 (1 : Int32) (p2 &&& (2147483647 : Int32)))), .unset, .unset, .unset, .unset, .unset, .unset, .unset, .unset, .unset, .unset] [(.int (f1 (1 : Int32) (p2 &&& (2147483647 : Int32))))]))
    refine OGo.st (fun _ k => XS.goto X1.here hx rfl (pc0 := 20) (pc' := 32) rfl (hb hby at_20) (by decide) (by decide) k) ?_
    show OGo p e below s _ _ _ (T1.setTop (mkF m 32 #[.val (.long q0), .second, .val (.long q1), .second, .val (.int p2), .val (.int p3), .val (.int p4), .val (.int (f1 (1 : Int32) (p2 &&& (2147483647 : Int32)))), .unset, .unset, .unset, .unset, .unset, .unset, .unset, .unset, .unset, .unset] [(.int (f1 (1 : Int32) (p2 &&& (2147483647 : Int32))))]))
    exact hj32 T1 _ X1 e1 N1 (f1 (1 : Int32) (p2 &&& (2147483647 : Int32))) (own_pos _) (by unfold f0; exact if_neg hc15)
theorem own_sub {Z : State} {args : Array Value} {j : Int32} (nn : ¬ j < 0) : (Term.sub (Term.index 0) (Term.int 128)).eval args Z none [j.toNatClampNeg] Z = some (.int (j - 128)) := by
  have h := idx_at (args := args) (first := Z) (o := none) (s := Z) nn
  simp [Term.eval] at h ⊢
  simp [h]
theorem own_46 (q0 q1 : Int64) (p2 p3 p4 : Int32) (a b w : Addr) (c : Cell) (k : Int32) (j : Int64) (ne : a ≠ b) : f0_46 q0 q1 p2 p3 p4 a b w c k j = 1 := by
  have ne' := ne.symm
  unfold f0_46
  generalize v0_0 q0 q1 p2 p3 p4 a b w c k j = v
  generalize f1 (1 : Int32) (p2 &&& (2147483647 : Int32)) = k1
  by_cases h4 : (p4 &&& (4 : Int32)) = (0 : Int32) <;> by_cases h8 : (p4 &&& (8 : Int32)) = (0 : Int32) <;> simp only [h4, h8, ↓reduceIte] <;> unfold f6B <;> (repeat' split) <;> first | rfl | (exfalso; simp_all; done)
theorem own_32 (q0 q1 : Int64) (p2 p3 p4 : Int32) (a b w : Addr) (c : Cell) (k : Int32) (ne : a ≠ b) : f0_32 q0 q1 p2 p3 p4 a b w c k = 1 := by
  unfold f0_32
  split <;> exact own_46 _ _ _ _ _ _ _ _ _ _ _ ne
theorem own_plain (q0 q1 : Int64) (p2 p3 p4 : Int32) (a b w : Addr) (c : Cell) (ne : a ≠ b) : f0 q0 q1 p2 p3 p4 a b w c = 1 := by
  unfold f0
  split <;> exact own_32 _ _ _ _ _ _ _ _ _ _ ne
set_option maxRecDepth 65536 in
set_option maxHeartbeats 40000000 in
theorem comes_1 {Post : Tables → Env → Array Value → State → Outcome → State → Prop} (hpost : ∀ tb e args s v u, (limb_1_1.after args s (.returned v) u = true ∧ limb_1_2.after args s (.returned v) u = true ∧ True) → FrameEnd s (.returned v) u (Jvm.fieldLocs frame_1_writes args s ++ Jvm.arrayLocs frame_1_arrays args s ++ Jvm.staticLocs frame_1_statics s) 16 128 → Post tb e args s (.returned v) u) :
    ArmFor flags0 classFile x code maxLocals ret World_1 tables_1 room_1 Calls_1 rest_1 Pre_1 Post := by
  intro l hfl _ _ p e ha hc hk s m args below hf hA hF happ hP
  obtain ⟨hcalls, hrest, hpre⟩ := hP
  obtain ⟨-, -, -, hnamed, -, -, -, hat⟩ := (Spec.applies_iff hf).mp happ
  obtain ⟨hg, hn⟩ := and_e (Cond.before_iff.mp (show (Jvm.Cond.and given_1 narrow_1).before args s = true from hpre))
  obtain ⟨gv1, gv2⟩ := and_e hg
  obtain ⟨gv3, gv4⟩ := and_e gv2
  obtain ⟨gv5, gv6⟩ := and_e gv4
  obtain ⟨gv7, gv8⟩ := and_e gv6
  obtain ⟨gv9, gv10⟩ := and_e gv8
  obtain ⟨w0, w1, w2, w3, w4, rfl⟩ : ∃ w0 w1 w2 w3 w4 : Value, args = #[w0, w1, w2, w3, w4] := by
    have hs : args.size = 5 := by simpa [Cond.value, given_1] using gv1
    obtain ⟨L⟩ := args
    match L, hs with
    | [w0, w1, w2, w3, w4], _ => exact ⟨w0, w1, w2, w3, w4, rfl⟩
  have hw := fun d (hd : d ∈ tables_1) => atoms_spec (ws := Jvm.Cond.code x code maxLocals ret :: tables_1) hat d (List.mem_cons_of_mem _ hd)
  have hfit : Fit s := fun {y c} hc i hi => by
    obtain ⟨ha, rfl⟩ := Array.getElem?_eq_some_iff.mp hc
    have q := List.all_eq_true.mp ((Array.all_eq_true_iff_forall_mem.mp hF) _ (Array.getElem_mem ha)) i (List.mem_range.mpr hi)
    simpa [Array.getElem?_eq_getElem hi] using q
  obtain ⟨i0, ei0⟩ := isL_v gv3
  obtain rfl : w0 = (.long i0) := Option.some.inj ei0
  obtain ⟨i1, ei1⟩ := isL_v gv5
  obtain rfl : w1 = (.long i1) := Option.some.inj ei1
  obtain ⟨i2, ei2⟩ := is_v gv7
  obtain rfl : w2 = (.int i2) := Option.some.inj ei2
  obtain ⟨i3, ei3⟩ := is_v gv9
  obtain rfl : w3 = (.int i3) := Option.some.inj ei3
  obtain ⟨i4, ei4⟩ := is_v gv10
  obtain rfl : w4 = (.int i4) := Option.some.inj ei4
  obtain ⟨nv1, nv2⟩ := and_e hn
  obtain ⟨nv3, nv4⟩ := and_e nv2
  obtain ⟨nv5, nv6⟩ := and_e nv4
  obtain ⟨nv7, nv8⟩ := and_e nv6
  obtain ⟨nv9, nv10⟩ := and_e nv8
  obtain ⟨w_SCATTERED, ev_SCATTERED⟩ := exa_v nv1
  have S_SCATTERED : Sta s s.heap "com/example/hazy_set/hazyset/BloomShape$Layout" "SCATTERED" "Lcom/example/hazy_set/hazyset/BloomShape$Layout;" (.ref w_SCATTERED) := Sta.start ev_SCATTERED (Or.inr ⟨(hw _ (List.mem_of_getElem? (i := 6) rfl)), (hw _ (List.mem_of_getElem? (i := 7) rfl))⟩)
  have E_SCATTERED : Exa s s.heap w_SCATTERED "com/example/hazy_set/hazyset/BloomShape$Layout" := Exa.start ev_SCATTERED nv1
  obtain ⟨w_LINED, ev_LINED⟩ := exa_v nv7
  have S_LINED : Sta s s.heap "com/example/hazy_set/hazyset/BloomShape$Layout" "LINED" "Lcom/example/hazy_set/hazyset/BloomShape$Layout;" (.ref w_LINED) := Sta.start ev_LINED (Or.inr ⟨(hw _ (List.mem_of_getElem? (i := 6) rfl)), (hw _ (List.mem_of_getElem? (i := 54) rfl))⟩)
  have E_LINED : Exa s s.heap w_LINED "com/example/hazy_set/hazyset/BloomShape$Layout" := Exa.start ev_LINED nv7
  have O_SCATTERED_lineShift : Fld s s.heap w_SCATTERED "com/example/hazy_set/hazyset/BloomShape$Layout" "lineShift" "I" (.int (0 : Int32)) := ofld_eq nv3 ev_SCATTERED
  have O_SCATTERED_ordinal : Fld s s.heap w_SCATTERED "java/lang/Enum" "ordinal" "I" (.int (0 : Int32)) := ofld_eq nv5 ev_SCATTERED
  have O_LINED_lineShift : Fld s s.heap w_LINED "com/example/hazy_set/hazyset/BloomShape$Layout" "lineShift" "I" (.int (9 : Int32)) := ofld_eq nv9 ev_LINED
  have O_LINED_ordinal : Fld s s.heap w_LINED "java/lang/Enum" "ordinal" "I" (.int (1 : Int32)) := ofld_eq nv10 ev_LINED
  have ne_LS : w_LINED ≠ w_SCATTERED := O_LINED_ordinal.ne O_SCATTERED_ordinal (by decide)
  obtain ⟨hsets, hown0⟩ := atoms_of _ (rest_1_c_eq ▸ (show rest_1_c.before _ s = true from hrest))
  obtain ⟨w_C, ev_C⟩ := exa_v (Cond.before_iff.mp (hsets _ (List.mem_of_getElem? (i := 3) rfl)))
  have S_C : Sta s s.heap "java/lang/Long$LongCache" "cache" "[Ljava/lang/Long;" (.ref w_C) := Sta.start ev_C (Or.inl (hsets _ (List.mem_of_getElem? (i := 1) rfl)))
  obtain ⟨c_C, Ar_C⟩ := Arr.start ev_C (Cond.before_iff.mp (hsets _ (List.mem_of_getElem? (i := 2) rfl)))
  obtain ⟨len1, len2⟩ := olen (Cond.before_iff.mp (hsets _ (List.mem_of_getElem? (i := 4) rfl))) ev_C Ar_C
  have hB : Bxs s w_C c_C "java/lang/Long" "J" (256 : Int32) (fun j => .long (j - 128).toInt64) := Bxs.start (fun _ => ev_C) Ar_C len1 len2 (by decide) (Cond.before_iff.mp (hsets _ (List.mem_of_getElem? (i := 5) rfl))) (fun X j nn h => eqv_l (i2l_at (own_sub nn)) h)
  have hpl := own_plain i0 i1 i2 i3 i4 w_LINED w_SCATTERED w_C c_C ne_LS
  obtain ⟨n, o, h1, h2, h3, _, L, rfl, ⟨rfl, N⟩, hq⟩ := rm0 l s _ hw tables_1 i0 i1 i2 i3 i4 w_LINED w_SCATTERED w_C c_C s.heap s.heap.size (Nat.le_refl _) S_LINED S_SCATTERED E_LINED E_SCATTERED O_LINED_lineShift O_LINED_ordinal O_SCATTERED_lineShift O_SCATTERED_ordinal S_C ne_LS hB rfl p e ha hc hk s m _ below hf ((Spec.applies_iff_loose hf).mp happ).1 ⟨rfl, State.Warmed39.refl s, rfl⟩ trivial
  refine ⟨n, _, h1, h2, h3, hpost _ _ _ _ _ _ ⟨Cond.after_iff.mpr rfl, Cond.after_iff.mpr (eq_i res_at (Term.int_eval (1)) (congrArg Value.int hpl)), trivial⟩ ⟨hq.1, hq.2.1, (hq.2.2.sift fun y hy => Or.inr (N y hy)).mono (by decide) (by decide)⟩⟩
theorem main_1_1 : Claimed_1_1 := comes_1 fun _ _ _ _ _ _ h hF => ⟨h.1, hF⟩
theorem main_1_2 : Claimed_1_2 := comes_1 fun _ _ _ _ _ _ h hF => ⟨h.2.1, hF⟩
end Jvm.Pilot.@@N@@
namespace Jvm.Pilot.@@N@@
open Jvm Jvm.ClassFile Sem Op Lib Jvm.Free Jvm.Stand Jvm.Pilot.@@N@@.Jvm.D
/-! MADE BY PROGRAM (witnessworld.py) out of the Statement's table words and the real class files: 19 classes; the members and pool entries that the words name. The judged class is class 1, her method 1. -/
namespace start1
open Jvm.ClassFile
def u (s : String) : CpInfo := .utf8 (stringToUtf16 s)
/-- a pool by its gaps: so many unusable entries, then the entry; so many at the end -/
def gap : Nat → List CpInfo → List CpInfo
  | 0, r => r
  | n + 1, r => .unusable :: gap n r
def poolList (es : List (Nat × CpInfo)) (last : Nat) : List CpInfo := es.foldr (fun e r => gap e.1 (e.2 :: r)) (gap last [])
def pool (es : List (Nat × CpInfo)) (last : Nat) : Array CpInfo := ⟨poolList es last⟩
def fileOf (pool : Array CpInfo) (this : Nat) (attrs : Array Attribute := #[]) (ms : Array MethodInfo := #[]) (fl : Nat := 33) (sup : Nat := 0) (ifs : Array Nat := #[]) (fds : Array FieldInfo := #[]) : ClassFile where
  minorVersion := 0
  majorVersion := 65
  constantPool := pool
  accessFlags := fl
  thisClass := this
  superClass := sup
  interfaces := ifs
  fields := fds
  methods := ms
  attributes := attrs
def plain (name : String) (sup : Option ClassId) : Class where
  name := name
  kind := .ordinary
  loader := none
  accessFlags := 33
  super := sup
  interfaces := #[]
  cf := none
  fields := #[]
  methods := #[]
  instanceTypes := #[]
  staticTypes := #[]
  resolved := #[]
  callSites := []
  init := .initialized
  statics := none
  mirror := none

def pool0 : Array CpInfo := pool [(5, u "<init>"), (0, u "()V"), (1, .class_ 10), (1, u "java/lang/Object")] 113

def k0c0 : Code := { maxStack := 0, maxLocals := 1, code := object_method_1_code, exceptionTable := #[], attributes := #[] }
def k0m0 : Method := { name := "<init>", desc := "()V", sig := { parameters := [], returnType := none }, accessFlags := 1, code := some k0c0 }
/-- java/lang/Object -/
def k0 : Class := { plain "java/lang/Object" none with
  accessFlags := 33
  interfaces := #[]
  cf := some (fileOf pool0 8 #[] #[{ accessFlags := 1, nameIndex := 5, descriptorIndex := 6, attributes := #[] }] 33 0 #[] #[])
  fields := #[]
  methods := #[k0m0]
  instanceTypes := #[]
  staticTypes := #[]
  resolved := Array.replicate 124 none
  statics := none }

def pool1 : Array CpInfo := pool [(2, .class_ 4), (1, u "java/lang/Object"), (0, u "<init>"), (0, u "()V"), (0, .integer 2147483647), (0, .methodref 9 10), (0, .class_ 11), (0, .nameAndType 12 13), (0, u "java/lang/Math"), (0, u "max"), (0, u "(II)I"), (0, .fieldref 15 16), (0, .class_ 17), (0, .nameAndType 18 19), (0, u "com/example/hazy_set/hazyset/BloomShape$Layout"), (0, u "LINED"), (0, u "Lcom/example/hazy_set/hazyset/BloomShape$Layout;"), (0, .fieldref 15 21), (0, .nameAndType 22 19), (0, u "SCATTERED"), (0, .class_ 24), (0, u "com/example/hazy_set/hazyset/BloomShape"), (0, .methodref 23 26), (0, .nameAndType 5 27), (0, u "(JILcom/example/hazy_set/hazyset/BloomShape$Layout;)V"), (0, .methodref 29 30), (0, .class_ 31), (0, .nameAndType 32 33), (0, u "java/lang/Long"), (0, u "valueOf"), (0, u "(J)Ljava/lang/Long;"), (0, .methodref 23 35), (0, .nameAndType 36 37), (0, u "equals"), (0, u "(Ljava/lang/Object;)Z"), (0, .class_ 39), (0, u "com/example/hazy_set/hazyset/BloomShapeEqualsPinLaw"), (2, u "law"), (0, u "(JJIII)Z")] 5

def k1m0 : Method := { name := "<init>", desc := "()V", sig := { parameters := [], returnType := none }, accessFlags := 1, code := none }
def k1c1 : Code := { maxStack := 6, maxLocals := 18, code := code, exceptionTable := #[], attributes := #[] }
def k1m1 : Method := { name := "law", desc := "(JJIII)Z", sig := { parameters := [.long, .long, .int, .int, .int], returnType := some .boolean }, accessFlags := 9, code := some k1c1 }
/-- com/example/hazy_set/hazyset/BloomShapeEqualsPinLaw -/
def k1 : Class := { plain "com/example/hazy_set/hazyset/BloomShapeEqualsPinLaw" (some 0) with
  accessFlags := 49
  interfaces := #[]
  cf := some (fileOf pool1 38 #[] #[{ accessFlags := 1, nameIndex := 5, descriptorIndex := 6, attributes := #[] }, { accessFlags := 9, nameIndex := 42, descriptorIndex := 43, attributes := #[] }] 49 2 #[] #[])
  fields := #[]
  methods := #[k1m0, k1m1]
  instanceTypes := #[]
  staticTypes := #[]
  resolved := Array.replicate 49 none
  statics := none }

def pool2 : Array CpInfo := pool [(1, .class_ 2), (0, u "java/lang/Math"), (1, .class_ 6), (1, u "java/lang/Object"), (0, u "<init>"), (0, u "()V"), (89, .class_ 100), (1, u "java/lang/Math$RandomNumberGeneratorHolder"), (71, u "negativeZeroFloatBits"), (0, u "J"), (2, u "negativeZeroDoubleBits"), (21, u "max"), (46, u "$assertionsDisabled"), (0, u "Z"), (88, u "(II)I"), (2, u "twoToTheDoubleScaleDown"), (0, u "D"), (4, u "twoToTheDoubleScaleUp"), (9, u "E"), (3, u "PI"), (2, u "TAU"), (2, u "DEGREES_TO_RADIANS"), (0, u "RADIANS_TO_DEGREES")] 94

def k2m0 : Method := { name := "<init>", desc := "()V", sig := { parameters := [], returnType := none }, accessFlags := 2, code := none }
def k2c1 : Code := { maxStack := 2, maxLocals := 2, code := jdk_29_method_65_code, exceptionTable := #[], attributes := #[] }
def k2m1 : Method := { name := "max", desc := "(II)I", sig := { parameters := [.int, .int], returnType := some .int }, accessFlags := 9, code := some k2c1 }
/-- java/lang/Math -/
def k2 : Class := { plain "java/lang/Math" (some 0) with
  accessFlags := 49
  interfaces := #[]
  cf := some (fileOf pool2 1 #[.nestMembers #[98]] #[{ accessFlags := 2, nameIndex := 7, descriptorIndex := 8, attributes := #[] }, { accessFlags := 9, nameIndex := 198, descriptorIndex := 335, attributes := #[] }] 49 4 #[] #[{ accessFlags := 25, nameIndex := 354, descriptorIndex := 339, attributes := #[] }, { accessFlags := 25, nameIndex := 358, descriptorIndex := 339, attributes := #[] }, { accessFlags := 25, nameIndex := 361, descriptorIndex := 339, attributes := #[] }, { accessFlags := 26, nameIndex := 364, descriptorIndex := 339, attributes := #[] }, { accessFlags := 26, nameIndex := 365, descriptorIndex := 339, attributes := #[] }, { accessFlags := 26, nameIndex := 172, descriptorIndex := 173, attributes := #[] }, { accessFlags := 26, nameIndex := 176, descriptorIndex := 173, attributes := #[] }, { accessFlags := 8, nameIndex := 344, descriptorIndex := 339, attributes := #[] }, { accessFlags := 8, nameIndex := 338, descriptorIndex := 339, attributes := #[] }, { accessFlags := 4120, nameIndex := 245, descriptorIndex := 246, attributes := #[] }])
  fields := #[{ name := "E", type := .double, accessFlags := 25, slot := 0, constantValue := 0 }, { name := "PI", type := .double, accessFlags := 25, slot := 1, constantValue := 0 }, { name := "TAU", type := .double, accessFlags := 25, slot := 2, constantValue := 0 }, { name := "DEGREES_TO_RADIANS", type := .double, accessFlags := 26, slot := 3, constantValue := 0 }, { name := "RADIANS_TO_DEGREES", type := .double, accessFlags := 26, slot := 4, constantValue := 0 }, { name := "negativeZeroFloatBits", type := .long, accessFlags := 26, slot := 5, constantValue := 0 }, { name := "negativeZeroDoubleBits", type := .long, accessFlags := 26, slot := 6, constantValue := 0 }, { name := "twoToTheDoubleScaleUp", type := .double, accessFlags := 8, slot := 7, constantValue := 0 }, { name := "twoToTheDoubleScaleDown", type := .double, accessFlags := 8, slot := 8, constantValue := 0 }, { name := "$assertionsDisabled", type := .boolean, accessFlags := 4120, slot := 9, constantValue := 0 }]
  methods := #[k2m0, k2m1]
  instanceTypes := #[]
  staticTypes := #[.double, .double, .double, .double, .double, .long, .long, .double, .double, .boolean]
  resolved := Array.replicate 460 none
  statics := none }

def pool3 : Array CpInfo := pool [(1, .class_ 2), (0, u "java/lang/constant/Constable"), (0, .class_ 4), (0, u "java/lang/Object")] 6

/-- java/lang/constant/Constable -/
def k3 : Class := { plain "java/lang/constant/Constable" (some 0) with
  accessFlags := 1537
  interfaces := #[]
  cf := some (fileOf pool3 1 #[] #[] 1537 3 #[] #[])
  fields := #[]
  methods := #[]
  instanceTypes := #[]
  staticTypes := #[]
  resolved := Array.replicate 11 none
  statics := none }

def pool4 : Array CpInfo := pool [(1, .class_ 2), (0, u "java/lang/Comparable"), (0, .class_ 4), (0, u "java/lang/Object")] 7

/-- java/lang/Comparable -/
def k4 : Class := { plain "java/lang/Comparable" (some 0) with
  accessFlags := 1537
  interfaces := #[]
  cf := some (fileOf pool4 1 #[] #[] 1537 3 #[] #[])
  fields := #[]
  methods := #[]
  instanceTypes := #[]
  staticTypes := #[]
  resolved := Array.replicate 12 none
  statics := none }

def pool5 : Array CpInfo := pool [(1, .class_ 2), (0, u "java/io/Serializable"), (0, .class_ 4), (0, u "java/lang/Object")] 2

/-- java/io/Serializable -/
def k5 : Class := { plain "java/io/Serializable" (some 0) with
  accessFlags := 1537
  interfaces := #[]
  cf := some (fileOf pool5 1 #[] #[] 1537 3 #[] #[])
  fields := #[]
  methods := #[]
  instanceTypes := #[]
  staticTypes := #[]
  resolved := Array.replicate 7 none
  statics := none }

def pool6 : Array CpInfo := pool [(2, .class_ 4), (1, u "java/lang/Enum"), (0, u "name"), (0, u "Ljava/lang/String;"), (0, .fieldref 2 8), (0, .nameAndType 9 10), (0, u "ordinal"), (0, u "I"), (1, .class_ 14), (1, u "java/lang/Object"), (4, u "hash"), (86, .class_ 108), (1, u "java/lang/Enum$EnumDesc"), (2, .class_ 112), (0, u "java/lang/constant/Constable"), (0, .class_ 114), (0, u "java/lang/Comparable"), (0, .class_ 116), (0, u "java/io/Serializable"), (9, u "()I")] 77

def k6c0 : Code := { maxStack := 1, maxLocals := 1, code := jdk_37_method_2_code, exceptionTable := #[], attributes := #[] }
def k6m0 : Method := { name := "ordinal", desc := "()I", sig := { parameters := [], returnType := some .int }, accessFlags := 17, code := some k6c0 }
/-- java/lang/Enum -/
def k6 : Class := { plain "java/lang/Enum" (some 0) with
  accessFlags := 1057
  interfaces := #[3, 4, 5]
  cf := some (fileOf pool6 2 #[.nestMembers #[106]] #[{ accessFlags := 17, nameIndex := 9, descriptorIndex := 126, attributes := #[] }] 1057 12 #[111, 113, 115] #[{ accessFlags := 18, nameIndex := 5, descriptorIndex := 6, attributes := #[] }, { accessFlags := 18, nameIndex := 9, descriptorIndex := 10, attributes := #[] }, { accessFlags := 2, nameIndex := 19, descriptorIndex := 10, attributes := #[] }])
  fields := #[{ name := "name", type := (.object "java/lang/String"), accessFlags := 18, slot := 0, constantValue := 0 }, { name := "ordinal", type := .int, accessFlags := 18, slot := 1, constantValue := 0 }, { name := "hash", type := .int, accessFlags := 2, slot := 2, constantValue := 0 }]
  methods := #[k6m0]
  instanceTypes := #[(.object "java/lang/String"), .int, .int]
  staticTypes := #[]
  resolved := Array.replicate 204 none
  statics := none }

def pool7 : Array CpInfo := pool [(1, .class_ 2), (0, u "com/example/hazy_set/hazyset/BloomShape"), (0, .class_ 4), (0, u "com/example/hazy_set/hazyset/BloomShape$Layout"), (2, u "SCATTERED"), (0, u "Lcom/example/hazy_set/hazyset/BloomShape$Layout;"), (2, u "LINED"), (2, u "$VALUES"), (0, u "[Lcom/example/hazy_set/hazyset/BloomShape$Layout;"), (6, .class_ 24), (1, u "java/lang/Enum"), (8, u "lineShift"), (0, u "I"), (2, u "formVersion"), (2, u "word"), (0, u "Ljava/lang/String;"), (23, u "()I"), (30, .methodref 3 97), (0, .nameAndType 98 65), (0, u "ordinal"), (32, u "linesPerElement"), (0, u "(I)I")] 29

def k7c0 : Code := { maxStack := 4, maxLocals := 2, code := prog_3_method_12_code, exceptionTable := #[], attributes := #[] }
def k7m0 : Method := { name := "linesPerElement", desc := "(I)I", sig := { parameters := [.int], returnType := some .int }, accessFlags := 2, code := some k7c0 }
/-- com/example/hazy_set/hazyset/BloomShape$Layout -/
def k7 : Class := { plain "com/example/hazy_set/hazyset/BloomShape$Layout" (some 6) with
  accessFlags := 16432
  interfaces := #[]
  cf := some (fileOf pool7 3 #[.nestHost 1] #[{ accessFlags := 2, nameIndex := 131, descriptorIndex := 132, attributes := #[] }] 16432 22 #[] #[{ accessFlags := 16409, nameIndex := 7, descriptorIndex := 8, attributes := #[] }, { accessFlags := 16409, nameIndex := 11, descriptorIndex := 8, attributes := #[] }, { accessFlags := 18, nameIndex := 33, descriptorIndex := 34, attributes := #[] }, { accessFlags := 18, nameIndex := 37, descriptorIndex := 34, attributes := #[] }, { accessFlags := 18, nameIndex := 40, descriptorIndex := 41, attributes := #[] }, { accessFlags := 4122, nameIndex := 14, descriptorIndex := 15, attributes := #[] }])
  fields := #[{ name := "SCATTERED", type := (.object "com/example/hazy_set/hazyset/BloomShape$Layout"), accessFlags := 16409, slot := 0, constantValue := 0 }, { name := "LINED", type := (.object "com/example/hazy_set/hazyset/BloomShape$Layout"), accessFlags := 16409, slot := 1, constantValue := 0 }, { name := "lineShift", type := .int, accessFlags := 18, slot := 3, constantValue := 0 }, { name := "formVersion", type := .int, accessFlags := 18, slot := 4, constantValue := 0 }, { name := "word", type := (.object "java/lang/String"), accessFlags := 18, slot := 5, constantValue := 0 }, { name := "$VALUES", type := (.array (.object "com/example/hazy_set/hazyset/BloomShape$Layout")), accessFlags := 4122, slot := 2, constantValue := 0 }]
  methods := #[k7m0]
  instanceTypes := #[(.object "java/lang/String"), .int, .int, .int, .int, (.object "java/lang/String")]
  staticTypes := #[(.object "com/example/hazy_set/hazyset/BloomShape$Layout"), (.object "com/example/hazy_set/hazyset/BloomShape$Layout"), (.array (.object "com/example/hazy_set/hazyset/BloomShape$Layout"))]
  resolved := Array.replicate 162 none
  statics := some 0 }

def pool8 : Array CpInfo := pool [(3, .methodref 4 5), (0, .class_ 6), (0, .nameAndType 7 8), (0, u "java/lang/Object"), (0, u "<init>"), (0, u "()V"), (0, .fieldref 10 11), (0, .class_ 12), (0, .nameAndType 13 14), (0, u "com/example/hazy_set/hazyset/BloomShape"), (0, u "bitCount"), (0, u "J"), (0, .fieldref 10 16), (0, .nameAndType 17 18), (0, u "hashCount"), (0, u "I"), (0, .fieldref 10 20), (0, .nameAndType 21 22), (0, u "layout"), (0, u "Lcom/example/hazy_set/hazyset/BloomShape$Layout;"), (0, .fieldref 24 25), (0, .class_ 26), (0, .nameAndType 27 18), (0, u "com/example/hazy_set/hazyset/BloomShape$Layout"), (0, u "lineShift"), (0, .fieldref 10 29), (0, .nameAndType 30 14), (0, u "lineCount"), (0, .methodref 24 32), (0, .nameAndType 33 34), (0, u "linesPerElement"), (0, u "(I)I"), (0, .fieldref 10 36), (0, .nameAndType 33 18), (0, .fieldref 10 38), (0, .nameAndType 39 18), (0, u "bitsPerLine"), (0, .fieldref 10 41), (0, .nameAndType 42 18), (0, u "longerLines"), (33, u "(JILcom/example/hazy_set/hazyset/BloomShape$Layout;)V"), (113, .class_ 191), (0, u "com/example/hazy_set/hazyset/BloomShape$Positions"), (21, u "MIN_BIT_COUNT"), (1, u "MAX_HASH_COUNT"), (1, u "MOST_BITS_IN_A_LINE"), (1, u "SIZED_SET_BIT_DEVIATIONS"), (0, u "D"), (0, u "MEMORY_RULE_FROM_FORMULA_BITS"), (0, u "MEMORY_RULE_MOST_OVER_FORMULA"), (0, u "LINED_HASH_COUNTS_ABOVE"), (0, u "WHOLE_DOUBLES"), (14, u "equals"), (0, u "(Ljava/lang/Object;)Z")] 51

def k8c0 : Code := { maxStack := 4, maxLocals := 5, code := prog_2_method_1_code, exceptionTable := #[], attributes := #[] }
def k8m0 : Method := { name := "<init>", desc := "(JILcom/example/hazy_set/hazyset/BloomShape$Layout;)V", sig := { parameters := [.long, .int, (.object "com/example/hazy_set/hazyset/BloomShape$Layout")], returnType := none }, accessFlags := 0, code := some k8c0 }
def k8c1 : Code := { maxStack := 4, maxLocals := 3, code := prog_2_method_19_code, exceptionTable := #[], attributes := #[] }
def k8m1 : Method := { name := "equals", desc := "(Ljava/lang/Object;)Z", sig := { parameters := [(.object "java/lang/Object")], returnType := some .boolean }, accessFlags := 1, code := some k8c1 }
/-- com/example/hazy_set/hazyset/BloomShape -/
def k8 : Class := { plain "com/example/hazy_set/hazyset/BloomShape" (some 0) with
  accessFlags := 48
  interfaces := #[]
  cf := some (fileOf pool8 10 #[.nestMembers #[190, 24]] #[{ accessFlags := 0, nameIndex := 7, descriptorIndex := 76, attributes := #[] }, { accessFlags := 1, nameIndex := 239, descriptorIndex := 240, attributes := #[] }] 48 4 #[] #[{ accessFlags := 24, nameIndex := 213, descriptorIndex := 14, attributes := #[] }, { accessFlags := 24, nameIndex := 215, descriptorIndex := 18, attributes := #[] }, { accessFlags := 26, nameIndex := 217, descriptorIndex := 18, attributes := #[] }, { accessFlags := 26, nameIndex := 219, descriptorIndex := 220, attributes := #[] }, { accessFlags := 26, nameIndex := 221, descriptorIndex := 220, attributes := #[] }, { accessFlags := 26, nameIndex := 222, descriptorIndex := 220, attributes := #[] }, { accessFlags := 26, nameIndex := 223, descriptorIndex := 18, attributes := #[] }, { accessFlags := 26, nameIndex := 224, descriptorIndex := 220, attributes := #[] }, { accessFlags := 18, nameIndex := 13, descriptorIndex := 14, attributes := #[] }, { accessFlags := 18, nameIndex := 17, descriptorIndex := 18, attributes := #[] }, { accessFlags := 18, nameIndex := 21, descriptorIndex := 22, attributes := #[] }, { accessFlags := 18, nameIndex := 30, descriptorIndex := 14, attributes := #[] }, { accessFlags := 18, nameIndex := 33, descriptorIndex := 18, attributes := #[] }, { accessFlags := 18, nameIndex := 39, descriptorIndex := 18, attributes := #[] }, { accessFlags := 18, nameIndex := 42, descriptorIndex := 18, attributes := #[] }])
  fields := #[{ name := "MIN_BIT_COUNT", type := .long, accessFlags := 24, slot := 0, constantValue := 0 }, { name := "MAX_HASH_COUNT", type := .int, accessFlags := 24, slot := 1, constantValue := 0 }, { name := "MOST_BITS_IN_A_LINE", type := .int, accessFlags := 26, slot := 2, constantValue := 0 }, { name := "SIZED_SET_BIT_DEVIATIONS", type := .double, accessFlags := 26, slot := 3, constantValue := 0 }, { name := "MEMORY_RULE_FROM_FORMULA_BITS", type := .double, accessFlags := 26, slot := 4, constantValue := 0 }, { name := "MEMORY_RULE_MOST_OVER_FORMULA", type := .double, accessFlags := 26, slot := 5, constantValue := 0 }, { name := "LINED_HASH_COUNTS_ABOVE", type := .int, accessFlags := 26, slot := 6, constantValue := 0 }, { name := "WHOLE_DOUBLES", type := .double, accessFlags := 26, slot := 7, constantValue := 0 }, { name := "bitCount", type := .long, accessFlags := 18, slot := 0, constantValue := 0 }, { name := "hashCount", type := .int, accessFlags := 18, slot := 1, constantValue := 0 }, { name := "layout", type := (.object "com/example/hazy_set/hazyset/BloomShape$Layout"), accessFlags := 18, slot := 2, constantValue := 0 }, { name := "lineCount", type := .long, accessFlags := 18, slot := 3, constantValue := 0 }, { name := "linesPerElement", type := .int, accessFlags := 18, slot := 4, constantValue := 0 }, { name := "bitsPerLine", type := .int, accessFlags := 18, slot := 5, constantValue := 0 }, { name := "longerLines", type := .int, accessFlags := 18, slot := 6, constantValue := 0 }]
  methods := #[k8m0, k8m1]
  instanceTypes := #[.long, .int, (.object "com/example/hazy_set/hazyset/BloomShape$Layout"), .long, .int, .int, .int]
  staticTypes := #[.long, .int, .int, .double, .double, .double, .int, .double]
  resolved := (((Array.replicate 292 none).setIfInBounds 23 (some (.field 7 2))).setIfInBounds 24 (some (.cls 7))).setIfInBounds 31 (some (.method ⟨7, 0⟩))
  statics := none }

def pool9 : Array CpInfo := pool [(1, .methodref 2 3), (0, .class_ 4), (0, .nameAndType 5 6), (0, u "java/lang/Object"), (0, u "<init>"), (0, u "()V"), (1, .class_ 10), (1, u "java/lang/Number"), (2, .class_ 14), (0, u "java/io/Serializable"), (0, u "serialVersionUID"), (0, u "J")] 20

def k9c0 : Code := { maxStack := 1, maxLocals := 1, code := jdk_18_method_1_code, exceptionTable := #[], attributes := #[] }
def k9m0 : Method := { name := "<init>", desc := "()V", sig := { parameters := [], returnType := none }, accessFlags := 1, code := some k9c0 }
/-- java/lang/Number -/
def k9 : Class := { plain "java/lang/Number" (some 0) with
  accessFlags := 1057
  interfaces := #[5]
  cf := some (fileOf pool9 8 #[] #[{ accessFlags := 1, nameIndex := 5, descriptorIndex := 6, attributes := #[] }] 1057 2 #[13] #[{ accessFlags := 26, nameIndex := 15, descriptorIndex := 16, attributes := #[] }])
  fields := #[{ name := "serialVersionUID", type := .long, accessFlags := 26, slot := 0, constantValue := 0 }]
  methods := #[k9m0]
  instanceTypes := #[]
  staticTypes := #[.long]
  resolved := Array.replicate 37 none
  statics := none }

def pool10 : Array CpInfo := pool [(1, .class_ 2), (0, u "java/lang/constant/ConstantDesc"), (0, .class_ 4), (0, u "java/lang/Object")] 32

/-- java/lang/constant/ConstantDesc -/
def k10 : Class := { plain "java/lang/constant/ConstantDesc" (some 0) with
  accessFlags := 1537
  interfaces := #[]
  cf := some (fileOf pool10 1 #[] #[] 1537 3 #[] #[])
  fields := #[]
  methods := #[]
  instanceTypes := #[]
  staticTypes := #[]
  resolved := Array.replicate 37 none
  statics := none }

def pool11 : Array CpInfo := pool [(1, .class_ 2), (0, u "java/lang/Long"), (55, .nameAndType 59 60), (0, u "<init>"), (0, u "()V"), (24, u "valueOf"), (143, u "(J)Ljava/lang/Long;"), (0, .long 18446744073709551488), (1, .long 127), (1, .fieldref 235 236), (0, .class_ 237), (0, .nameAndType 238 239), (0, u "java/lang/Long$LongCache"), (0, u "cache"), (0, u "[Ljava/lang/Long;"), (0, .methodref 1 241), (0, .nameAndType 59 242), (0, u "(J)V"), (27, .methodref 271 58), (0, .class_ 272), (0, u "java/lang/Number"), (0, .fieldref 1 274), (0, .nameAndType 275 276), (0, u "value"), (0, u "J"), (84, u "TYPE"), (0, u "Ljava/lang/Class;"), (0, .class_ 364), (0, u "java/lang/Comparable"), (0, .class_ 366), (0, u "java/lang/constant/Constable"), (0, .class_ 368), (0, u "java/lang/constant/ConstantDesc"), (0, u "MIN_VALUE"), (1, u "MAX_VALUE"), (4, u "SIZE"), (0, u "I"), (1, u "BYTES"), (1, u "serialVersionUID")] 142

def k11c0 : Code := { maxStack := 4, maxLocals := 3, code := jdk_35_method_24_code, exceptionTable := #[], attributes := #[] }
def k11m0 : Method := { name := "valueOf", desc := "(J)Ljava/lang/Long;", sig := { parameters := [.long], returnType := some (.object "java/lang/Long") }, accessFlags := 9, code := some k11c0 }
def k11c1 : Code := { maxStack := 3, maxLocals := 3, code := jdk_35_method_26_code, exceptionTable := #[], attributes := #[] }
def k11m1 : Method := { name := "<init>", desc := "(J)V", sig := { parameters := [.long], returnType := none }, accessFlags := 1, code := some k11c1 }
/-- java/lang/Long -/
def k11 : Class := { plain "java/lang/Long" (some 9) with
  accessFlags := 49
  interfaces := #[4, 3, 10]
  cf := some (fileOf pool11 1 #[.nestMembers #[235]] #[{ accessFlags := 9, nameIndex := 85, descriptorIndex := 229, attributes := #[] }, { accessFlags := 1, nameIndex := 59, descriptorIndex := 242, attributes := #[] }] 49 271 #[363, 365, 367] #[{ accessFlags := 25, nameIndex := 369, descriptorIndex := 276, attributes := #[] }, { accessFlags := 25, nameIndex := 371, descriptorIndex := 276, attributes := #[] }, { accessFlags := 25, nameIndex := 361, descriptorIndex := 362, attributes := #[] }, { accessFlags := 18, nameIndex := 275, descriptorIndex := 276, attributes := #[] }, { accessFlags := 25, nameIndex := 376, descriptorIndex := 377, attributes := #[] }, { accessFlags := 25, nameIndex := 379, descriptorIndex := 377, attributes := #[] }, { accessFlags := 26, nameIndex := 381, descriptorIndex := 276, attributes := #[] }])
  fields := #[{ name := "MIN_VALUE", type := .long, accessFlags := 25, slot := 0, constantValue := 0 }, { name := "MAX_VALUE", type := .long, accessFlags := 25, slot := 1, constantValue := 0 }, { name := "TYPE", type := (.object "java/lang/Class"), accessFlags := 25, slot := 2, constantValue := 0 }, { name := "value", type := .long, accessFlags := 18, slot := 0, constantValue := 0 }, { name := "SIZE", type := .int, accessFlags := 25, slot := 3, constantValue := 0 }, { name := "BYTES", type := .int, accessFlags := 25, slot := 4, constantValue := 0 }, { name := "serialVersionUID", type := .long, accessFlags := 26, slot := 5, constantValue := 0 }]
  methods := #[k11m0, k11m1]
  instanceTypes := #[.long]
  staticTypes := #[.long, .long, (.object "java/lang/Class"), .int, .int, .long]
  resolved := Array.replicate 524 none
  statics := none }

def pool12 : Array CpInfo := pool [(2, .class_ 4), (1, u "java/lang/Object"), (0, u "<init>"), (0, u "()V"), (0, .class_ 8), (0, u "java/lang/Long"), (7, .class_ 18), (1, u "java/lang/Long$LongCache"), (0, u "$assertionsDisabled"), (0, u "Z"), (8, u "archivedCache"), (0, u "[Ljava/lang/Long;"), (7, u "cache")] 24

def k12m0 : Method := { name := "<init>", desc := "()V", sig := { parameters := [], returnType := none }, accessFlags := 2, code := none }
/-- java/lang/Long$LongCache -/
def k12 : Class := { plain "java/lang/Long$LongCache" (some 0) with
  accessFlags := 48
  interfaces := #[]
  cf := some (fileOf pool12 16 #[.nestHost 7] #[{ accessFlags := 2, nameIndex := 5, descriptorIndex := 6, attributes := #[] }] 48 2 #[] #[{ accessFlags := 24, nameIndex := 38, descriptorIndex := 30, attributes := #[] }, { accessFlags := 8, nameIndex := 29, descriptorIndex := 30, attributes := #[] }, { accessFlags := 4120, nameIndex := 19, descriptorIndex := 20, attributes := #[] }])
  fields := #[{ name := "cache", type := (.array (.object "java/lang/Long")), accessFlags := 24, slot := 0, constantValue := 0 }, { name := "archivedCache", type := (.array (.object "java/lang/Long")), accessFlags := 8, slot := 1, constantValue := 0 }, { name := "$assertionsDisabled", type := .boolean, accessFlags := 4120, slot := 2, constantValue := 0 }]
  methods := #[k12m0]
  instanceTypes := #[]
  staticTypes := #[(.array (.object "java/lang/Long")), (.array (.object "java/lang/Long")), .boolean]
  resolved := Array.replicate 63 none
  statics := some 1 }

def pool13 : Array CpInfo := pool [(1, u "java/lang/Cloneable"), (0, .class_ 1), (0, u "java/lang/Object"), (0, .class_ 3)] 3

/-- java/lang/Cloneable -/
def k13 : Class := { plain "java/lang/Cloneable" (some 0) with
  accessFlags := 1537
  interfaces := #[]
  cf := some (fileOf pool13 2 #[] #[] 1537 4 #[] #[])
  fields := #[]
  methods := #[]
  instanceTypes := #[]
  staticTypes := #[]
  resolved := Array.replicate 8 none
  statics := none }

/-- the primitive byte -/
def k14 : Class := { plain "byte" none with kind := .primitive 'B', accessFlags := 0x411 }
/-- [B -/
def k15 : Class := { plain "[B" (some 0) with kind := .array 14 .byte, interfaces := #[13, 5], accessFlags := 1041 }

/-- the primitive int -/
def k16 : Class := { plain "int" none with kind := .primitive 'I', accessFlags := 0x411 }
/-- [I -/
def k17 : Class := { plain "[I" (some 0) with kind := .array 16 .int, interfaces := #[13, 5], accessFlags := 1041 }

/-- [Ljava/lang/Long; -/
def k18 : Class := { plain "[Ljava/lang/Long;" (some 0) with kind := .array 11 (.object "java/lang/Long"), interfaces := #[13, 5], accessFlags := 1041 }

def heap : Heap := #[{ cls := 7, slots := #[.ref 259, .ref 260, .null], vm := .statics 7 },
  { cls := 12, slots := #[.ref 2, .null, .int 0], vm := .statics 12 },
  { cls := 18, slots := #[.ref 3, .ref 4, .ref 5, .ref 6, .ref 7, .ref 8, .ref 9, .ref 10, .ref 11, .ref 12, .ref 13, .ref 14, .ref 15, .ref 16, .ref 17, .ref 18, .ref 19, .ref 20, .ref 21, .ref 22, .ref 23, .ref 24, .ref 25, .ref 26, .ref 27, .ref 28, .ref 29, .ref 30, .ref 31, .ref 32, .ref 33, .ref 34, .ref 35, .ref 36, .ref 37, .ref 38, .ref 39, .ref 40, .ref 41, .ref 42, .ref 43, .ref 44, .ref 45, .ref 46, .ref 47, .ref 48, .ref 49, .ref 50, .ref 51, .ref 52, .ref 53, .ref 54, .ref 55, .ref 56, .ref 57, .ref 58, .ref 59, .ref 60, .ref 61, .ref 62, .ref 63, .ref 64, .ref 65, .ref 66, .ref 67, .ref 68, .ref 69, .ref 70, .ref 71, .ref 72, .ref 73, .ref 74, .ref 75, .ref 76, .ref 77, .ref 78, .ref 79, .ref 80, .ref 81, .ref 82, .ref 83, .ref 84, .ref 85, .ref 86, .ref 87, .ref 88, .ref 89, .ref 90, .ref 91, .ref 92, .ref 93, .ref 94, .ref 95, .ref 96, .ref 97, .ref 98, .ref 99, .ref 100, .ref 101, .ref 102, .ref 103, .ref 104, .ref 105, .ref 106, .ref 107, .ref 108, .ref 109, .ref 110, .ref 111, .ref 112, .ref 113, .ref 114, .ref 115, .ref 116, .ref 117, .ref 118, .ref 119, .ref 120, .ref 121, .ref 122, .ref 123, .ref 124, .ref 125, .ref 126, .ref 127, .ref 128, .ref 129, .ref 130, .ref 131, .ref 132, .ref 133, .ref 134, .ref 135, .ref 136, .ref 137, .ref 138, .ref 139, .ref 140, .ref 141, .ref 142, .ref 143, .ref 144, .ref 145, .ref 146, .ref 147, .ref 148, .ref 149, .ref 150, .ref 151, .ref 152, .ref 153, .ref 154, .ref 155, .ref 156, .ref 157, .ref 158, .ref 159, .ref 160, .ref 161, .ref 162, .ref 163, .ref 164, .ref 165, .ref 166, .ref 167, .ref 168, .ref 169, .ref 170, .ref 171, .ref 172, .ref 173, .ref 174, .ref 175, .ref 176, .ref 177, .ref 178, .ref 179, .ref 180, .ref 181, .ref 182, .ref 183, .ref 184, .ref 185, .ref 186, .ref 187, .ref 188, .ref 189, .ref 190, .ref 191, .ref 192, .ref 193, .ref 194, .ref 195, .ref 196, .ref 197, .ref 198, .ref 199, .ref 200, .ref 201, .ref 202, .ref 203, .ref 204, .ref 205, .ref 206, .ref 207, .ref 208, .ref 209, .ref 210, .ref 211, .ref 212, .ref 213, .ref 214, .ref 215, .ref 216, .ref 217, .ref 218, .ref 219, .ref 220, .ref 221, .ref 222, .ref 223, .ref 224, .ref 225, .ref 226, .ref 227, .ref 228, .ref 229, .ref 230, .ref 231, .ref 232, .ref 233, .ref 234, .ref 235, .ref 236, .ref 237, .ref 238, .ref 239, .ref 240, .ref 241, .ref 242, .ref 243, .ref 244, .ref 245, .ref 246, .ref 247, .ref 248, .ref 249, .ref 250, .ref 251, .ref 252, .ref 253, .ref 254, .ref 255, .ref 256, .ref 257, .ref 258], vm := .none },
  { cls := 11, slots := #[.long (-128)], vm := .none },
  { cls := 11, slots := #[.long (-127)], vm := .none },
  { cls := 11, slots := #[.long (-126)], vm := .none },
  { cls := 11, slots := #[.long (-125)], vm := .none },
  { cls := 11, slots := #[.long (-124)], vm := .none },
  { cls := 11, slots := #[.long (-123)], vm := .none },
  { cls := 11, slots := #[.long (-122)], vm := .none },
  { cls := 11, slots := #[.long (-121)], vm := .none },
  { cls := 11, slots := #[.long (-120)], vm := .none },
  { cls := 11, slots := #[.long (-119)], vm := .none },
  { cls := 11, slots := #[.long (-118)], vm := .none },
  { cls := 11, slots := #[.long (-117)], vm := .none },
  { cls := 11, slots := #[.long (-116)], vm := .none },
  { cls := 11, slots := #[.long (-115)], vm := .none },
  { cls := 11, slots := #[.long (-114)], vm := .none },
  { cls := 11, slots := #[.long (-113)], vm := .none },
  { cls := 11, slots := #[.long (-112)], vm := .none },
  { cls := 11, slots := #[.long (-111)], vm := .none },
  { cls := 11, slots := #[.long (-110)], vm := .none },
  { cls := 11, slots := #[.long (-109)], vm := .none },
  { cls := 11, slots := #[.long (-108)], vm := .none },
  { cls := 11, slots := #[.long (-107)], vm := .none },
  { cls := 11, slots := #[.long (-106)], vm := .none },
  { cls := 11, slots := #[.long (-105)], vm := .none },
  { cls := 11, slots := #[.long (-104)], vm := .none },
  { cls := 11, slots := #[.long (-103)], vm := .none },
  { cls := 11, slots := #[.long (-102)], vm := .none },
  { cls := 11, slots := #[.long (-101)], vm := .none },
  { cls := 11, slots := #[.long (-100)], vm := .none },
  { cls := 11, slots := #[.long (-99)], vm := .none },
  { cls := 11, slots := #[.long (-98)], vm := .none },
  { cls := 11, slots := #[.long (-97)], vm := .none },
  { cls := 11, slots := #[.long (-96)], vm := .none },
  { cls := 11, slots := #[.long (-95)], vm := .none },
  { cls := 11, slots := #[.long (-94)], vm := .none },
  { cls := 11, slots := #[.long (-93)], vm := .none },
  { cls := 11, slots := #[.long (-92)], vm := .none },
  { cls := 11, slots := #[.long (-91)], vm := .none },
  { cls := 11, slots := #[.long (-90)], vm := .none },
  { cls := 11, slots := #[.long (-89)], vm := .none },
  { cls := 11, slots := #[.long (-88)], vm := .none },
  { cls := 11, slots := #[.long (-87)], vm := .none },
  { cls := 11, slots := #[.long (-86)], vm := .none },
  { cls := 11, slots := #[.long (-85)], vm := .none },
  { cls := 11, slots := #[.long (-84)], vm := .none },
  { cls := 11, slots := #[.long (-83)], vm := .none },
  { cls := 11, slots := #[.long (-82)], vm := .none },
  { cls := 11, slots := #[.long (-81)], vm := .none },
  { cls := 11, slots := #[.long (-80)], vm := .none },
  { cls := 11, slots := #[.long (-79)], vm := .none },
  { cls := 11, slots := #[.long (-78)], vm := .none },
  { cls := 11, slots := #[.long (-77)], vm := .none },
  { cls := 11, slots := #[.long (-76)], vm := .none },
  { cls := 11, slots := #[.long (-75)], vm := .none },
  { cls := 11, slots := #[.long (-74)], vm := .none },
  { cls := 11, slots := #[.long (-73)], vm := .none },
  { cls := 11, slots := #[.long (-72)], vm := .none },
  { cls := 11, slots := #[.long (-71)], vm := .none },
  { cls := 11, slots := #[.long (-70)], vm := .none },
  { cls := 11, slots := #[.long (-69)], vm := .none },
  { cls := 11, slots := #[.long (-68)], vm := .none },
  { cls := 11, slots := #[.long (-67)], vm := .none },
  { cls := 11, slots := #[.long (-66)], vm := .none },
  { cls := 11, slots := #[.long (-65)], vm := .none },
  { cls := 11, slots := #[.long (-64)], vm := .none },
  { cls := 11, slots := #[.long (-63)], vm := .none },
  { cls := 11, slots := #[.long (-62)], vm := .none },
  { cls := 11, slots := #[.long (-61)], vm := .none },
  { cls := 11, slots := #[.long (-60)], vm := .none },
  { cls := 11, slots := #[.long (-59)], vm := .none },
  { cls := 11, slots := #[.long (-58)], vm := .none },
  { cls := 11, slots := #[.long (-57)], vm := .none },
  { cls := 11, slots := #[.long (-56)], vm := .none },
  { cls := 11, slots := #[.long (-55)], vm := .none },
  { cls := 11, slots := #[.long (-54)], vm := .none },
  { cls := 11, slots := #[.long (-53)], vm := .none },
  { cls := 11, slots := #[.long (-52)], vm := .none },
  { cls := 11, slots := #[.long (-51)], vm := .none },
  { cls := 11, slots := #[.long (-50)], vm := .none },
  { cls := 11, slots := #[.long (-49)], vm := .none },
  { cls := 11, slots := #[.long (-48)], vm := .none },
  { cls := 11, slots := #[.long (-47)], vm := .none },
  { cls := 11, slots := #[.long (-46)], vm := .none },
  { cls := 11, slots := #[.long (-45)], vm := .none },
  { cls := 11, slots := #[.long (-44)], vm := .none },
  { cls := 11, slots := #[.long (-43)], vm := .none },
  { cls := 11, slots := #[.long (-42)], vm := .none },
  { cls := 11, slots := #[.long (-41)], vm := .none },
  { cls := 11, slots := #[.long (-40)], vm := .none },
  { cls := 11, slots := #[.long (-39)], vm := .none },
  { cls := 11, slots := #[.long (-38)], vm := .none },
  { cls := 11, slots := #[.long (-37)], vm := .none },
  { cls := 11, slots := #[.long (-36)], vm := .none },
  { cls := 11, slots := #[.long (-35)], vm := .none },
  { cls := 11, slots := #[.long (-34)], vm := .none },
  { cls := 11, slots := #[.long (-33)], vm := .none },
  { cls := 11, slots := #[.long (-32)], vm := .none },
  { cls := 11, slots := #[.long (-31)], vm := .none },
  { cls := 11, slots := #[.long (-30)], vm := .none },
  { cls := 11, slots := #[.long (-29)], vm := .none },
  { cls := 11, slots := #[.long (-28)], vm := .none },
  { cls := 11, slots := #[.long (-27)], vm := .none },
  { cls := 11, slots := #[.long (-26)], vm := .none },
  { cls := 11, slots := #[.long (-25)], vm := .none },
  { cls := 11, slots := #[.long (-24)], vm := .none },
  { cls := 11, slots := #[.long (-23)], vm := .none },
  { cls := 11, slots := #[.long (-22)], vm := .none },
  { cls := 11, slots := #[.long (-21)], vm := .none },
  { cls := 11, slots := #[.long (-20)], vm := .none },
  { cls := 11, slots := #[.long (-19)], vm := .none },
  { cls := 11, slots := #[.long (-18)], vm := .none },
  { cls := 11, slots := #[.long (-17)], vm := .none },
  { cls := 11, slots := #[.long (-16)], vm := .none },
  { cls := 11, slots := #[.long (-15)], vm := .none },
  { cls := 11, slots := #[.long (-14)], vm := .none },
  { cls := 11, slots := #[.long (-13)], vm := .none },
  { cls := 11, slots := #[.long (-12)], vm := .none },
  { cls := 11, slots := #[.long (-11)], vm := .none },
  { cls := 11, slots := #[.long (-10)], vm := .none },
  { cls := 11, slots := #[.long (-9)], vm := .none },
  { cls := 11, slots := #[.long (-8)], vm := .none },
  { cls := 11, slots := #[.long (-7)], vm := .none },
  { cls := 11, slots := #[.long (-6)], vm := .none },
  { cls := 11, slots := #[.long (-5)], vm := .none },
  { cls := 11, slots := #[.long (-4)], vm := .none },
  { cls := 11, slots := #[.long (-3)], vm := .none },
  { cls := 11, slots := #[.long (-2)], vm := .none },
  { cls := 11, slots := #[.long (-1)], vm := .none },
  { cls := 11, slots := #[.long 0], vm := .none },
  { cls := 11, slots := #[.long 1], vm := .none },
  { cls := 11, slots := #[.long 2], vm := .none },
  { cls := 11, slots := #[.long 3], vm := .none },
  { cls := 11, slots := #[.long 4], vm := .none },
  { cls := 11, slots := #[.long 5], vm := .none },
  { cls := 11, slots := #[.long 6], vm := .none },
  { cls := 11, slots := #[.long 7], vm := .none },
  { cls := 11, slots := #[.long 8], vm := .none },
  { cls := 11, slots := #[.long 9], vm := .none },
  { cls := 11, slots := #[.long 10], vm := .none },
  { cls := 11, slots := #[.long 11], vm := .none },
  { cls := 11, slots := #[.long 12], vm := .none },
  { cls := 11, slots := #[.long 13], vm := .none },
  { cls := 11, slots := #[.long 14], vm := .none },
  { cls := 11, slots := #[.long 15], vm := .none },
  { cls := 11, slots := #[.long 16], vm := .none },
  { cls := 11, slots := #[.long 17], vm := .none },
  { cls := 11, slots := #[.long 18], vm := .none },
  { cls := 11, slots := #[.long 19], vm := .none },
  { cls := 11, slots := #[.long 20], vm := .none },
  { cls := 11, slots := #[.long 21], vm := .none },
  { cls := 11, slots := #[.long 22], vm := .none },
  { cls := 11, slots := #[.long 23], vm := .none },
  { cls := 11, slots := #[.long 24], vm := .none },
  { cls := 11, slots := #[.long 25], vm := .none },
  { cls := 11, slots := #[.long 26], vm := .none },
  { cls := 11, slots := #[.long 27], vm := .none },
  { cls := 11, slots := #[.long 28], vm := .none },
  { cls := 11, slots := #[.long 29], vm := .none },
  { cls := 11, slots := #[.long 30], vm := .none },
  { cls := 11, slots := #[.long 31], vm := .none },
  { cls := 11, slots := #[.long 32], vm := .none },
  { cls := 11, slots := #[.long 33], vm := .none },
  { cls := 11, slots := #[.long 34], vm := .none },
  { cls := 11, slots := #[.long 35], vm := .none },
  { cls := 11, slots := #[.long 36], vm := .none },
  { cls := 11, slots := #[.long 37], vm := .none },
  { cls := 11, slots := #[.long 38], vm := .none },
  { cls := 11, slots := #[.long 39], vm := .none },
  { cls := 11, slots := #[.long 40], vm := .none },
  { cls := 11, slots := #[.long 41], vm := .none },
  { cls := 11, slots := #[.long 42], vm := .none },
  { cls := 11, slots := #[.long 43], vm := .none },
  { cls := 11, slots := #[.long 44], vm := .none },
  { cls := 11, slots := #[.long 45], vm := .none },
  { cls := 11, slots := #[.long 46], vm := .none },
  { cls := 11, slots := #[.long 47], vm := .none },
  { cls := 11, slots := #[.long 48], vm := .none },
  { cls := 11, slots := #[.long 49], vm := .none },
  { cls := 11, slots := #[.long 50], vm := .none },
  { cls := 11, slots := #[.long 51], vm := .none },
  { cls := 11, slots := #[.long 52], vm := .none },
  { cls := 11, slots := #[.long 53], vm := .none },
  { cls := 11, slots := #[.long 54], vm := .none },
  { cls := 11, slots := #[.long 55], vm := .none },
  { cls := 11, slots := #[.long 56], vm := .none },
  { cls := 11, slots := #[.long 57], vm := .none },
  { cls := 11, slots := #[.long 58], vm := .none },
  { cls := 11, slots := #[.long 59], vm := .none },
  { cls := 11, slots := #[.long 60], vm := .none },
  { cls := 11, slots := #[.long 61], vm := .none },
  { cls := 11, slots := #[.long 62], vm := .none },
  { cls := 11, slots := #[.long 63], vm := .none },
  { cls := 11, slots := #[.long 64], vm := .none },
  { cls := 11, slots := #[.long 65], vm := .none },
  { cls := 11, slots := #[.long 66], vm := .none },
  { cls := 11, slots := #[.long 67], vm := .none },
  { cls := 11, slots := #[.long 68], vm := .none },
  { cls := 11, slots := #[.long 69], vm := .none },
  { cls := 11, slots := #[.long 70], vm := .none },
  { cls := 11, slots := #[.long 71], vm := .none },
  { cls := 11, slots := #[.long 72], vm := .none },
  { cls := 11, slots := #[.long 73], vm := .none },
  { cls := 11, slots := #[.long 74], vm := .none },
  { cls := 11, slots := #[.long 75], vm := .none },
  { cls := 11, slots := #[.long 76], vm := .none },
  { cls := 11, slots := #[.long 77], vm := .none },
  { cls := 11, slots := #[.long 78], vm := .none },
  { cls := 11, slots := #[.long 79], vm := .none },
  { cls := 11, slots := #[.long 80], vm := .none },
  { cls := 11, slots := #[.long 81], vm := .none },
  { cls := 11, slots := #[.long 82], vm := .none },
  { cls := 11, slots := #[.long 83], vm := .none },
  { cls := 11, slots := #[.long 84], vm := .none },
  { cls := 11, slots := #[.long 85], vm := .none },
  { cls := 11, slots := #[.long 86], vm := .none },
  { cls := 11, slots := #[.long 87], vm := .none },
  { cls := 11, slots := #[.long 88], vm := .none },
  { cls := 11, slots := #[.long 89], vm := .none },
  { cls := 11, slots := #[.long 90], vm := .none },
  { cls := 11, slots := #[.long 91], vm := .none },
  { cls := 11, slots := #[.long 92], vm := .none },
  { cls := 11, slots := #[.long 93], vm := .none },
  { cls := 11, slots := #[.long 94], vm := .none },
  { cls := 11, slots := #[.long 95], vm := .none },
  { cls := 11, slots := #[.long 96], vm := .none },
  { cls := 11, slots := #[.long 97], vm := .none },
  { cls := 11, slots := #[.long 98], vm := .none },
  { cls := 11, slots := #[.long 99], vm := .none },
  { cls := 11, slots := #[.long 100], vm := .none },
  { cls := 11, slots := #[.long 101], vm := .none },
  { cls := 11, slots := #[.long 102], vm := .none },
  { cls := 11, slots := #[.long 103], vm := .none },
  { cls := 11, slots := #[.long 104], vm := .none },
  { cls := 11, slots := #[.long 105], vm := .none },
  { cls := 11, slots := #[.long 106], vm := .none },
  { cls := 11, slots := #[.long 107], vm := .none },
  { cls := 11, slots := #[.long 108], vm := .none },
  { cls := 11, slots := #[.long 109], vm := .none },
  { cls := 11, slots := #[.long 110], vm := .none },
  { cls := 11, slots := #[.long 111], vm := .none },
  { cls := 11, slots := #[.long 112], vm := .none },
  { cls := 11, slots := #[.long 113], vm := .none },
  { cls := 11, slots := #[.long 114], vm := .none },
  { cls := 11, slots := #[.long 115], vm := .none },
  { cls := 11, slots := #[.long 116], vm := .none },
  { cls := 11, slots := #[.long 117], vm := .none },
  { cls := 11, slots := #[.long 118], vm := .none },
  { cls := 11, slots := #[.long 119], vm := .none },
  { cls := 11, slots := #[.long 120], vm := .none },
  { cls := 11, slots := #[.long 121], vm := .none },
  { cls := 11, slots := #[.long 122], vm := .none },
  { cls := 11, slots := #[.long 123], vm := .none },
  { cls := 11, slots := #[.long 124], vm := .none },
  { cls := 11, slots := #[.long 125], vm := .none },
  { cls := 11, slots := #[.long 126], vm := .none },
  { cls := 11, slots := #[.long 127], vm := .none },
  { cls := 7, slots := #[.null, .int 0, .int 0, .int 0, .int 0, .null], vm := .none },
  { cls := 7, slots := #[.null, .int 1, .int 0, .int 9, .int 0, .null], vm := .none }]
def classes : Array Class := #[k0, k1, k2, k3, k4, k5, k6, k7, k8, k9, k10, k11, k12, k13, k14, k15, k16, k17, k18]
def interned : List (Array UInt16 × Addr) := []
def slotsUsed : Nat := 530
def theMethod : MethodId := ⟨1, 1⟩
def args0 : Array Value := #[.long 5, .long 7, .int 3, .int 4, .int 0]
def aboutOver (below : List Frame) : State where
  vm := { classes := classes, interned := interned.toArray }
  heap := heap
  slotsUsed := slotsUsed
  threads := #[{ frames := .invoking theMethod args0 :: below }]
def below0 : List Frame := [.native { method := ⟨0, 0⟩, args := #[] }]
def about1 : State := aboutOver below0
def p0 : Program := .bare "" "" ""
def e0 : Env := launch0.env 0 0 0
theorem w_frames : about1.frames = Frame.invoking theMethod args0 :: below0 := rfl
set_option maxRecDepth 65536 in
theorem w_args : argsFit about1.vm theMethod args0 = true := by decide +kernel
set_option maxRecDepth 65536 in
theorem w_heap : heapFits about1 = true := by decide +kernel
set_option maxRecDepth 65536 in
theorem w_runnable : about1.curStatus? = some .runnable := by decide +kernel
set_option maxRecDepth 65536 in
theorem w_alone : about1.alone = true := by decide +kernel
set_option maxRecDepth 65536 in
theorem w_named : about1.methodNamed? x = some theMethod := by decide +kernel
set_option maxRecDepth 65536 in
theorem w_hears : about1.hears theMethod below0 = true := by decide +kernel
set_option maxRecDepth 65536 in
theorem w_ripe : about1.ripe theMethod args0 below0 = true := by decide +kernel
theorem w_running : about1.status = .running := rfl
set_option maxRecDepth 65536 in
theorem w_room : about1.hasRoom e0.platform room_1 = true :=
  launch0.hasRoom_least _ room_1 (by decide +kernel) (by decide +kernel) (by decide +kernel) (by decide +kernel) (by decide +kernel) (by decide +kernel)
theorem allAtoms_all (ts : List Jvm.Cond) (a : Array Jvm.Value) (st : Jvm.State) : (allAtoms ts).before a st = ts.all (fun c => c.before a st) := by
  induction ts with
  | nil => rfl
  | cons c t ih =>
    show (Jvm.Cond.and c (allAtoms t)).before a st = _
    rw [Jvm.Cond.before_and, ih, List.all_cons]
def words1 : List Jvm.Cond := Jvm.Cond.code x code maxLocals ret :: tables_1
/-- a 'code' word, met by the world's own term for the bytes: nothing is compared byte by byte -/
theorem code_word {y : MethodName} {bytes : ByteArray} {mx : Nat} {rt : Option FieldType} {a : Array Value} {s : State} {m : MethodId} {meth : Method} {c : Code} (h1 : s.methodNamed? y = some m) (h2 : s.vm.method? m = some meth) (h3 : meth.code = some c) (h4 : c.code = bytes)
    (h5 : (c.maxLocals == mx && c.exceptionTable.isEmpty && decide (c.maxStack ≤ mostOperands) && decide (meth.sig.returnType = rt) && !meth.locks && decide (parseMethodDescriptor y.desc = some meth.sig)) = true) : (Jvm.Cond.code y bytes mx rt).before a s = true := by
  simp only [Bool.and_eq_true, beq_iff_eq, Bool.not_eq_true', decide_eq_true_eq] at h5
  obtain ⟨⟨⟨⟨⟨g1, g2⟩, g3⟩, g4⟩, g5⟩, g6⟩ := h5
  simp [Cond.before, Cond.holds, Cond.value, h1, h2, h3, h4, g1, g2, g3, g4, g5, g6]
def isCode : Jvm.Cond → Bool
  | .code _ _ _ _ => true
  | _ => false
theorem all_split {L : List Jvm.Cond} {P : Jvm.Cond → Bool} (h1 : L.all (fun c => isCode c || P c) = true) (h2 : ∀ c ∈ L.filter isCode, P c = true) : L.all P = true := by
  refine List.all_eq_true.mpr fun c hc => ?_
  have h := List.all_eq_true.mp h1 c hc
  rcases Bool.eq_false_or_eq_true (isCode c) with hi | hi
  · exact h2 c (List.mem_filter.mpr ⟨hc, hi⟩)
  · simpa [hi] using h
set_option maxRecDepth 65536 in
theorem w_c0 : (Jvm.Cond.code x code maxLocals ret).before args0 about1 = true := code_word (m := ⟨1, 1⟩) (meth := k1m1) (c := k1c1) (by decide +kernel) rfl rfl rfl (by decide +kernel)
set_option maxRecDepth 65536 in
theorem w_c1 : (Jvm.Cond.code ({ cls := "java/lang/Math", name := "max", desc := "(II)I" } : Jvm.MethodName) jdk_29_method_65_code (2 : Nat) (Option.some Jvm.ClassFile.FieldType.int)).before args0 about1 = true := code_word (m := ⟨2, 1⟩) (meth := k2m1) (c := k2c1) (by decide +kernel) rfl rfl rfl (by decide +kernel)
set_option maxRecDepth 65536 in
theorem w_c2 : (Jvm.Cond.code ({ cls := "com/example/hazy_set/hazyset/BloomShape", name := "<init>", desc := "(JILcom/example/hazy_set/hazyset/BloomShape$Layout;)V" } : Jvm.MethodName) prog_2_method_1_code (5 : Nat) (Option.none : Option Jvm.ClassFile.FieldType)).before args0 about1 = true := code_word (m := ⟨8, 0⟩) (meth := k8m0) (c := k8c0) (by decide +kernel) rfl rfl rfl (by decide +kernel)
set_option maxRecDepth 65536 in
theorem w_c3 : (Jvm.Cond.code ({ cls := "java/lang/Object", name := "<init>", desc := "()V" } : Jvm.MethodName) object_method_1_code (1 : Nat) (Option.none : Option Jvm.ClassFile.FieldType)).before args0 about1 = true := code_word (m := ⟨0, 0⟩) (meth := k0m0) (c := k0c0) (by decide +kernel) rfl rfl rfl (by decide +kernel)
set_option maxRecDepth 65536 in
theorem w_c4 : (Jvm.Cond.code ({ cls := "com/example/hazy_set/hazyset/BloomShape$Layout", name := "linesPerElement", desc := "(I)I" } : Jvm.MethodName) prog_3_method_12_code (2 : Nat) (Option.some Jvm.ClassFile.FieldType.int)).before args0 about1 = true := code_word (m := ⟨7, 0⟩) (meth := k7m0) (c := k7c0) (by decide +kernel) rfl rfl rfl (by decide +kernel)
set_option maxRecDepth 65536 in
theorem w_c5 : (Jvm.Cond.code ({ cls := "java/lang/Enum", name := "ordinal", desc := "()I" } : Jvm.MethodName) jdk_37_method_2_code (1 : Nat) (Option.some Jvm.ClassFile.FieldType.int)).before args0 about1 = true := code_word (m := ⟨6, 0⟩) (meth := k6m0) (c := k6c0) (by decide +kernel) rfl rfl rfl (by decide +kernel)
set_option maxRecDepth 65536 in
theorem w_c6 : (Jvm.Cond.code ({ cls := "com/example/hazy_set/hazyset/BloomShape", name := "equals", desc := "(Ljava/lang/Object;)Z" } : Jvm.MethodName) prog_2_method_19_code (3 : Nat) (Option.some Jvm.ClassFile.FieldType.boolean)).before args0 about1 = true := code_word (m := ⟨8, 1⟩) (meth := k8m1) (c := k8c1) (by decide +kernel) rfl rfl rfl (by decide +kernel)
set_option maxRecDepth 65536 in
theorem w_c7 : (Jvm.Cond.code ({ cls := "java/lang/Long", name := "valueOf", desc := "(J)Ljava/lang/Long;" } : Jvm.MethodName) jdk_35_method_24_code (3 : Nat) (Option.some (Jvm.ClassFile.FieldType.object "java/lang/Long"))).before args0 about1 = true := code_word (m := ⟨11, 0⟩) (meth := k11m0) (c := k11c0) (by decide +kernel) rfl rfl rfl (by decide +kernel)
set_option maxRecDepth 65536 in
theorem w_c8 : (Jvm.Cond.code ({ cls := "java/lang/Long", name := "<init>", desc := "(J)V" } : Jvm.MethodName) jdk_35_method_26_code (3 : Nat) (Option.none : Option Jvm.ClassFile.FieldType)).before args0 about1 = true := code_word (m := ⟨11, 1⟩) (meth := k11m1) (c := k11c1) (by decide +kernel) rfl rfl rfl (by decide +kernel)
set_option maxRecDepth 65536 in
theorem w_c9 : (Jvm.Cond.code ({ cls := "java/lang/Number", name := "<init>", desc := "()V" } : Jvm.MethodName) jdk_18_method_1_code (1 : Nat) (Option.none : Option Jvm.ClassFile.FieldType)).before args0 about1 = true := code_word (m := ⟨9, 0⟩) (meth := k9m0) (c := k9c0) (by decide +kernel) rfl rfl rfl (by decide +kernel)
def codes1 : List Jvm.Cond := [Jvm.Cond.code x code maxLocals ret, Jvm.Cond.code ({ cls := "java/lang/Math", name := "max", desc := "(II)I" } : Jvm.MethodName) jdk_29_method_65_code (2 : Nat) (Option.some Jvm.ClassFile.FieldType.int), Jvm.Cond.code ({ cls := "com/example/hazy_set/hazyset/BloomShape", name := "<init>", desc := "(JILcom/example/hazy_set/hazyset/BloomShape$Layout;)V" } : Jvm.MethodName) prog_2_method_1_code (5 : Nat) (Option.none : Option Jvm.ClassFile.FieldType), Jvm.Cond.code ({ cls := "java/lang/Object", name := "<init>", desc := "()V" } : Jvm.MethodName) object_method_1_code (1 : Nat) (Option.none : Option Jvm.ClassFile.FieldType), Jvm.Cond.code ({ cls := "com/example/hazy_set/hazyset/BloomShape$Layout", name := "linesPerElement", desc := "(I)I" } : Jvm.MethodName) prog_3_method_12_code (2 : Nat) (Option.some Jvm.ClassFile.FieldType.int), Jvm.Cond.code ({ cls := "java/lang/Enum", name := "ordinal", desc := "()I" } : Jvm.MethodName) jdk_37_method_2_code (1 : Nat) (Option.some Jvm.ClassFile.FieldType.int), Jvm.Cond.code ({ cls := "com/example/hazy_set/hazyset/BloomShape", name := "equals", desc := "(Ljava/lang/Object;)Z" } : Jvm.MethodName) prog_2_method_19_code (3 : Nat) (Option.some Jvm.ClassFile.FieldType.boolean), Jvm.Cond.code ({ cls := "java/lang/Long", name := "valueOf", desc := "(J)Ljava/lang/Long;" } : Jvm.MethodName) jdk_35_method_24_code (3 : Nat) (Option.some (Jvm.ClassFile.FieldType.object "java/lang/Long")), Jvm.Cond.code ({ cls := "java/lang/Long", name := "<init>", desc := "(J)V" } : Jvm.MethodName) jdk_35_method_26_code (3 : Nat) (Option.none : Option Jvm.ClassFile.FieldType), Jvm.Cond.code ({ cls := "java/lang/Number", name := "<init>", desc := "()V" } : Jvm.MethodName) jdk_18_method_1_code (1 : Nat) (Option.none : Option Jvm.ClassFile.FieldType)]
set_option maxRecDepth 65536 in
theorem codes_eq : words1.filter isCode = codes1 := rfl
theorem w_codes : ∀ c ∈ words1.filter isCode, c.before args0 about1 = true := by
  rw [codes_eq]
  intro c hc
  simp only [codes1, List.mem_cons, List.not_mem_nil, or_false] at hc
  rcases hc with rfl | rfl | rfl | rfl | rfl | rfl | rfl | rfl | rfl | rfl
  · exact w_c0
  · exact w_c1
  · exact w_c2
  · exact w_c3
  · exact w_c4
  · exact w_c5
  · exact w_c6
  · exact w_c7
  · exact w_c8
  · exact w_c9
set_option maxRecDepth 65536 in
theorem w_t1 : (words1.take 24).all (fun c => isCode c || c.before args0 about1) = true := by decide +kernel
set_option maxRecDepth 65536 in
theorem w_t2 : ((words1.drop 24).take 24).all (fun c => isCode c || c.before args0 about1) = true := by decide +kernel
set_option maxRecDepth 65536 in
theorem w_t3 : (((words1.drop 24).drop 24).take 24).all (fun c => isCode c || c.before args0 about1) = true := by decide +kernel
set_option maxRecDepth 65536 in
theorem w_t4 : (((words1.drop 24).drop 24).drop 24).all (fun c => isCode c || c.before args0 about1) = true := by decide +kernel
theorem w_tables : (allAtoms (Jvm.Cond.code x code maxLocals ret :: tables_1)).before args0 about1 = true := by
  rw [allAtoms_all]
  show words1.all (fun c => c.before args0 about1) = true
  refine all_split ?_ w_codes
  rw [← List.take_append_drop 24 words1, List.all_append, w_t1, ← List.take_append_drop 24 (words1.drop 24), List.all_append, w_t2, ← List.take_append_drop 24 ((words1.drop 24).drop 24), List.all_append, w_t3, w_t4]
  rfl
set_option maxRecDepth 65536 in
theorem w_rest : rest_1_c.before args0 about1 = true := by decide +kernel
set_option maxRecDepth 65536 in
theorem w_case : (Jvm.Cond.and given_1 narrow_1).before args0 about1 = true := by decide +kernel
theorem w_applies : (headSpec (Jvm.Cond.code x code maxLocals ret :: tables_1) room_1).applies x e0.platform about1 = true :=
  (Spec.applies_iff w_frames).mpr ⟨w_running, w_runnable, w_alone, w_named, w_hears, w_ripe, w_room, w_tables⟩
theorem atStart : AtStart classFile x code maxLocals ret World_1 tables_1 room_1 Calls_1 rest_1 Pre_1 launch0 p0 e0 about1 theMethod args0 below0 :=
  ⟨lists_1, trivial, launch0.admits_env _ _ _, launch0.least_env, fairChoices_fair.cas, fairChoices_fair.clock, w_frames, w_args, w_heap, w_applies, trivial, w_rest, w_case⟩
end start1
theorem witness_1 : WitnessClaimed_1 := ⟨start1.p0, start1.e0, start1.about1, start1.theMethod, start1.args0, start1.below0, start1.atStart⟩
end Jvm.Pilot.@@N@@
