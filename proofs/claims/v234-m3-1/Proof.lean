import JvmDerived
import JvmDerived.Pilot.@@N@@Statement
import JvmDerived.Pilot.@@N@@Code
set_option linter.unusedVariables false
set_option linter.unusedSimpArgs false
@@BLOCK:NumsL.lean.txt@@
namespace Jvm.OwnKit
open Sem ClassFile Op Lib Jvm.Stand Jvm.Free Jvm.LawKit Jvm.RoadKit
def Go (tb : Tables) (e : Env) (below : List Frame) (P : State → Outcome → Prop) (S : State) : Prop := ∃ U o, Steps tb e below S U ∧ U.status = .running ∧ Ended U below o ∧ P U o
theorem Go.s {tb : Tables} {e : Env} {below : List Frame} {P : State → Outcome → Prop} {S S' : State} (k : ∀ {t : State}, Steps tb e below S' t → Steps tb e below S t) (f : Go tb e below P S') : Go tb e below P S := by
  obtain ⟨U, o, h1, h2⟩ := f
  exact ⟨U, o, k h1, h2⟩
theorem Go.cast {tb : Tables} {e : Env} {below : List Frame} {P : State → Outcome → Prop} {T : State} {g g' : JFrame} (q : g = g') (f : Go tb e below P (T.setTop g')) : Go tb e below P (T.setTop g) := q ▸ f
/-- the contract of a body, at one heap and one list of arguments -/
def Con (l : Launch) (Z : State) (y : MethodName) (bytes : ByteArray) (maxL : Nat) (ret : Option FieldType) (ws : List Jvm.Cond) (rm : Room) (as' : Array Value) (h : Heap) (Q : Option Value → Heap → List Loc → Prop) : Prop :=
  MetFree l y (head1 (Cond.code y bytes maxL ret :: ws) rm) (fun a U => a = as' ∧ Z.Warmed39 U.vm ∧ U.heap = h) (fun _ _ _ _ _ => True) (fun _ U o U' => ∃ v L, o = .returned v ∧ Q v U'.heap L ∧ FrameEnd U o U' L rm.cells rm.slots)
theorem Con.intro {l : Launch} {Z : State} {y : MethodName} {bytes : ByteArray} {maxL : Nat} {ret : Option FieldType} {ws : List Jvm.Cond} {rm : Room} {as' : Array Value} {h : Heap} {Q : Option Value → Heap → List Loc → Prop} (hpn : plainFor y = true)
    (body : ∀ (p : Program) (e : Env) (s : State) (m : MethodId) (below : List Frame) (meth : Method) (c : Code) (s₁ : State) (P : State → Outcome → Prop), p.tables.exec = Jvm.exec → c.code = bytes → c.maxLocals = maxL → s.vm.findClass y.cls = some m.cls → meth.name = y.name → meth.sig.returnType = ret → meth.locks = false → Z.Warmed39 s.vm →
      Stand p l e rm s m as' below meth c s₁ [] 0 0 → s₁.heap = h → (∀ U v L, Q v U.heap L → FrameEnd s (.returned v) U L rm.cells rm.slots → P U (.returned v)) → Go p.tables e below P (s₁.setTop (entryFrame m as' maxL))) :
    Con l Z y bytes maxL ret ws rm as' h Q := by
  refine MetFree.of_bodySF hpn hisR ?_
  intro p e s m args below meth c s₁ Bd hml0 hP hK
  obtain ⟨rfl, hZ, hh⟩ := hP
  exact body p e s m below meth c s₁ _ Bd.exec Bd.bytes hml0 (findClass_of_methodNamed Bd.named) (name_of_methodNamed Bd.named Bd.method).1 Bd.returns (BodyLoose.notSynchronized Bd) hZ (Stand.of_body Bd) (by rw [← hh, Bd.state]; rfl) fun U v L q f => ⟨v, L, rfl, q, f⟩
theorem Con.mono {l : Launch} {Z : State} {y : MethodName} {bytes : ByteArray} {maxL : Nat} {ret : Option FieldType} {ws : List Jvm.Cond} {rm : Room} {as' : Array Value} {h : Heap} {Q Q' : Option Value → Heap → List Loc → Prop} (C : Con l Z y bytes maxL ret ws rm as' h Q) (q : ∀ v h L, Q v h L → Q' v h L) : Con l Z y bytes maxL ret ws rm as' h Q' := by
  intro p e ha hc hk s m args below hf happ hP hK
  obtain ⟨n, o, h1, h2, h3, v, L, h4, h5, h6⟩ := C p e ha hc hk s m args below hf happ hP hK
  exact ⟨n, o, h1, h2, h3, v, L, h4, q _ _ _ h5, h6⟩
def ConH (l : Launch) (Z : State) (y : MethodName) (bytes : ByteArray) (maxL : Nat) (ret : Option FieldType) (hs : List (Nat × Nat × Nat × Nat)) (ws : List Jvm.Cond) (rm : Room) (as' : Array Value) (h : Heap) (Q : Option Value → Heap → List Loc → Prop) : Prop :=
  MetFree l y (head1 (Cond.codeWith y bytes maxL ret hs :: ws) rm) (fun a U => a = as' ∧ Z.Warmed39 U.vm ∧ U.heap = h) (fun _ _ _ _ _ => True) (fun _ U o U' => ∃ v L, o = .returned v ∧ Q v U'.heap L ∧ FrameEnd U o U' L rm.cells rm.slots)
theorem ConH.intro {l : Launch} {Z : State} {y : MethodName} {bytes : ByteArray} {maxL : Nat} {ret : Option FieldType} {hs : List (Nat × Nat × Nat × Nat)} {ws : List Jvm.Cond} {rm : Room} {as' : Array Value} {h : Heap} {Q : Option Value → Heap → List Loc → Prop} (hpn : plainFor y = true)
    (body : ∀ (p : Program) (e : Env) (s : State) (m : MethodId) (below : List Frame) (meth : Method) (c : Code) (s₁ : State) (P : State → Outcome → Prop), p.tables.exec = Jvm.exec → c.code = bytes → c.maxLocals = maxL → s.vm.findClass y.cls = some m.cls → meth.name = y.name → meth.sig.returnType = ret → meth.locks = false → Z.Warmed39 s.vm →
      Stand p l e rm s m as' below meth c s₁ [] 0 0 → s₁.heap = h → (∀ U v L, Q v U.heap L → FrameEnd s (.returned v) U L rm.cells rm.slots → P U (.returned v)) → Go p.tables e below P (s₁.setTop (entryFrame m as' maxL))) :
    ConH l Z y bytes maxL ret hs ws rm as' h Q := by
  refine MetFree.of_bodySF hpn hisWith ?_
  intro p e s m args below meth c s₁ Bd hml0 hP hK
  obtain ⟨rfl, hZ, hh⟩ := hP
  exact body p e s m below meth c s₁ _ Bd.exec Bd.bytes hml0 (findClass_of_methodNamed Bd.named) (name_of_methodNamed Bd.named Bd.method).1 Bd.returns (BodyLoose.notSynchronized Bd) hZ (Stand.of_body Bd) (by rw [← hh, Bd.state]; rfl) fun U v L q f => ⟨v, L, rfl, q, f⟩
section Walk
variable {p : Program} {l : Launch} {e : Env} {R : Room} {s : State} {m : MethodId} {args : Array Value} {below : List Frame} {meth : Method} {c : Code} {T : State} {locs : List Loc} {cells slots : Nat} {P : State → Outcome → Prop} {Z : State} {a0 : Array Value} {h : Heap}
theorem Go.ret (X : Stand p l e R s m args below meth c T locs cells slots) (hx : p.tables.exec = Jvm.exec) (hlk : meth.locks = false) {pc : Nat} {Ls : Array Slot} {w : Value} {t : FieldType} {i : Instr} {rest : List Value} (hret : meth.sig.returnType = some t) (hn : narrow t w = w)
    (hi : (i = .ireturn ∧ (t = .int ∨ t = .boolean ∨ t = .byte ∨ t = .char ∨ t = .short) ∧ ∃ z, w = .int z) ∨ (i = .lreturn ∧ t = .long ∧ ∃ z, w = .long z) ∨ (i = .dreturn ∧ t = .double ∧ ∃ z, w = .double z) ∨ (i = .freturn ∧ t = .float ∧ ∃ z, w = .float z) ∨ (i = .areturn ∧ t.isReference = true ∧ w.isRef = true))
    (hd : decode c.code pc = .ok (i, 1)) (hP : ∀ U : State, U.heap = T.heap → FrameEnd s (.returned (some w)) U locs cells slots → P U (.returned (some w))) : Go p.tables e below P (T.setTop (mkF m pc Ls (w :: rest))) := by
  obtain ⟨fs, hr, hrun, hended, hW, hsame⟩ := X.leave (v := some w) (fun h => by rw [hret] at h; cases h) hlk
  exact ⟨_, _, retOut X hx hret hn hi hd hr, hrun, hended, hP _ rfl ⟨⟨_, rfl⟩, hW, hsame⟩⟩
theorem Go.retI (X : Stand p l e R s m args below meth c T locs cells slots) (hx : p.tables.exec = Jvm.exec) (hlk : meth.locks = false) {pc : Nat} {Ls : Array Slot} {z : Int32} {rest : List Value} (hret : meth.sig.returnType = some .int)
    (hd : decode c.code pc = .ok (.ireturn, 1)) (hP : ∀ U : State, U.heap = T.heap → FrameEnd s (.returned (some (.int z))) U locs cells slots → P U (.returned (some (.int z)))) : Go p.tables e below P (T.setTop (mkF m pc Ls (.int z :: rest))) :=
  Go.ret X hx hlk hret rfl (Or.inl ⟨rfl, Or.inl rfl, _, rfl⟩) hd hP
theorem Go.retZ (X : Stand p l e R s m args below meth c T locs cells slots) (hx : p.tables.exec = Jvm.exec) (hlk : meth.locks = false) {pc : Nat} {Ls : Array Slot} {z : Int32} {rest : List Value} (hret : meth.sig.returnType = some .boolean) (hz : z = 0 ∨ z = 1)
    (hd : decode c.code pc = .ok (.ireturn, 1)) (hP : ∀ U : State, U.heap = T.heap → FrameEnd s (.returned (some (.int z))) U locs cells slots → P U (.returned (some (.int z)))) : Go p.tables e below P (T.setTop (mkF m pc Ls (.int z :: rest))) :=
  Go.ret X hx hlk hret (by rcases hz with rfl | rfl <;> rfl) (Or.inl ⟨rfl, Or.inr (Or.inl rfl), _, rfl⟩) hd hP
theorem Go.retJ (X : Stand p l e R s m args below meth c T locs cells slots) (hx : p.tables.exec = Jvm.exec) (hlk : meth.locks = false) {pc : Nat} {Ls : Array Slot} {z : Int64} {rest : List Value} (hret : meth.sig.returnType = some .long)
    (hd : decode c.code pc = .ok (.lreturn, 1)) (hP : ∀ U : State, U.heap = T.heap → FrameEnd s (.returned (some (.long z))) U locs cells slots → P U (.returned (some (.long z)))) : Go p.tables e below P (T.setTop (mkF m pc Ls (.long z :: rest))) :=
  Go.ret X hx hlk hret rfl (Or.inr (Or.inl ⟨rfl, rfl, _, rfl⟩)) hd hP
theorem Go.retR (X : Stand p l e R s m args below meth c T locs cells slots) (hx : p.tables.exec = Jvm.exec) (hlk : meth.locks = false) {pc : Nat} {Ls : Array Slot} {w : Value} {t : FieldType} {rest : List Value} (hret : meth.sig.returnType = some t) (ht : t.isReference = true) (hw : w.isRef = true)
    (hd : decode c.code pc = .ok (.areturn, 1)) (hP : ∀ U : State, U.heap = T.heap → FrameEnd s (.returned (some w)) U locs cells slots → P U (.returned (some w))) : Go p.tables e below P (T.setTop (mkF m pc Ls (w :: rest))) :=
  Go.ret X hx hlk hret (by rcases ref_cases hw with rfl | ⟨z, rfl⟩ <;> cases t <;> first | rfl | (cases ht)) (Or.inr (Or.inr (Or.inr (Or.inr ⟨rfl, ht, hw⟩)))) hd hP
theorem Go.retV (X : Stand p l e R s m args below meth c T locs cells slots) (hx : p.tables.exec = Jvm.exec) (hlk : meth.locks = false) {pc : Nat} {Ls : Array Slot} (hret : meth.sig.returnType = none)
    (hd : decode c.code pc = .ok (.return_, 1)) (hP : ∀ U : State, U.heap = T.heap → FrameEnd s (.returned none) U locs cells slots → P U (.returned none)) : Go p.tables e below P (T.setTop (mkF m pc Ls [])) := by
  obtain ⟨fs, hr, hrun, hended, hW, hsame⟩ := X.leave (v := none) (fun _ => rfl) hlk
  exact ⟨_, _, X.returnOut hx hret hd hr, hrun, hended, hP _ rfl ⟨⟨_, rfl⟩, hW, hsame⟩⟩
theorem Con.static {y : MethodName} {bytes : ByteArray} {maxL : Nat} {ret : Option FieldType} {rm : Room} {as' : Array Value} {Q : Option Value → Heap → List Loc → Prop} (C : Con l Z y bytes maxL ret [] rm as' h Q)
    (X : Stand p l e R s m args below meth c T locs cells slots) (hx : p.tables.exec = Jvm.exec) (hZ : Z.Warmed39 s.vm) {own : String} {index W : Nat} (hown : s.vm.findClass own = some m.cls)
    (wl : (Cond.methodLink own index y).before a0 Z = true) (wst : (Cond.static y).before a0 Z = true) (wz : (Cond.initialized y.cls).before a0 Z = true) (wc : (Cond.code y bytes maxL ret).before a0 Z = true)
    (hy : y.cls ≠ "java/lang/invoke/MethodHandle" ∧ y.cls ≠ "java/lang/invoke/VarHandle") (hf : rm.frames + 1 ≤ R.frames) (hl : W + (maxL + 11) + rm.locals ≤ R.locals) (hce : cells + rm.cells ≤ R.cells) (hsl : slots + rm.slots ≤ R.slots) (eT : T.heap = h)
    {g : JFrame} (hg : g.method = m) (hsize : g.locals.size = c.maxLocals) {argsL rest : List Value} (has : argsL.toArray = as') (hlen : ∀ sig, parseMethodDescriptor y.desc = some sig → argsL.length = sig.parameters.length)
    (hstack : g.stack = argsL.reverse ++ rest) (hW : 2 * g.monitorRoom + (rest.map fun v => v.category).sum ≤ W) (hdg : decode c.code g.pc = .ok (.invokestatic index, 3)) :
    ∃ (v : Option Value) (T' : State) (L : List Loc), Stand p l e R s m args below meth c T' (locs ++ L) (cells + rm.cells) (slots + rm.slots) ∧ Q v T'.heap L ∧
      ∀ {t : State}, Steps p.tables e below (T'.setTop { g with pc := g.pc + 3, stack := v.toList ++ rest }) t → Steps p.tables e below (T.setTop g) t := by
  obtain ⟨v, vm₁, ⟨T', L', k', n'⟩, -, X', ⟨L, hQ, e1, e2, e3⟩, st⟩ := Jvm.LawKit.callS X hx hown (mvT hZ wl) (mvT hZ wst) (mvT hZ wz) (mvT hZ wc) hy (backOf (W := W) C hZ wc wz hf hl) hg hsize hlen hstack hW hdg (fun _ _ => ⟨has, eT, hce, hsl⟩)
  dsimp only [Pt.U, Pt.locs, Pt.cells, Pt.slots] at X' e1 e2 e3 st hQ
  subst e1 e2 e3
  exact ⟨v, T', L, X', hQ, fun {t} k => st t k⟩
theorem Con.special {y : MethodName} {bytes : ByteArray} {maxL : Nat} {rm : Room} {as' : Array Value} {Q : Option Value → Heap → List Loc → Prop} (C : Con l Z y bytes maxL none [] rm as' h Q) (hy1 : y.name = "<init>")
    (X : Stand p l e R s m args below meth c T locs cells slots) (hx : p.tables.exec = Jvm.exec) (hZ : Z.Warmed39 s.vm) {own : String} {index W : Nat} (hown : s.vm.findClass own = some m.cls)
    (wl : (Cond.methodLink own index y).before a0 Z = true) (wi : (Cond.instanceMethod y).before a0 Z = true) (wz : (Cond.initialized y.cls).before a0 Z = true) (wc : (Cond.code y bytes maxL none).before a0 Z = true)
    (hy : y.cls ≠ "java/lang/invoke/MethodHandle" ∧ y.cls ≠ "java/lang/invoke/VarHandle") (hf : rm.frames + 1 ≤ R.frames) (hl : W + (maxL + 11) + rm.locals ≤ R.locals) (hce : cells + rm.cells ≤ R.cells) (hsl : slots + rm.slots ≤ R.slots) (eT : T.heap = h)
    {g : JFrame} (hg : g.method = m) (hsize : g.locals.size = c.maxLocals) {a : Addr} {argsL rest : List Value} (has : (Value.ref a :: argsL).toArray = as') (hlen : ∀ sig, parseMethodDescriptor y.desc = some sig → argsL.length = sig.parameters.length)
    (hstack : g.stack = argsL.reverse ++ .ref a :: rest) (hW : 2 * g.monitorRoom + (rest.map fun v => v.category).sum ≤ W) (hdg : decode c.code g.pc = .ok (.invokespecial index, 3)) :
    ∃ (v : Option Value) (T' : State) (L : List Loc), Stand p l e R s m args below meth c T' (locs ++ L) (cells + rm.cells) (slots + rm.slots) ∧ Q v T'.heap L ∧
      ∀ {t : State}, Steps p.tables e below (T'.setTop { g with pc := g.pc + 3, stack := v.toList ++ rest }) t → Steps p.tables e below (T.setTop g) t := by
  obtain ⟨v, vm₁, ⟨T', L', k', n'⟩, -, X', ⟨L, hQ, e1, e2, e3⟩, st⟩ := X.specialBack hx hy1 hown (mvT hZ wl) (mvT hZ wi) (mvT hZ wc) hy (backOf (W := W) C hZ wc wz hf hl) hg hsize (Steps.refl _) hlen hstack hW hdg (fun _ _ => ⟨has, eT, hce, hsl⟩)
  dsimp only [Pt.U, Pt.locs, Pt.cells, Pt.slots] at X' e1 e2 e3 st hQ
  subst e1 e2 e3
  exact ⟨v, T', L, X', hQ, fun {t} k => st.trans k⟩
theorem ConH.special {y : MethodName} {bytes : ByteArray} {maxL : Nat} {rm : Room} {as' : Array Value} {Q : Option Value → Heap → List Loc → Prop} {hs : List (Nat × Nat × Nat × Nat)} (C : ConH l Z y bytes maxL none hs [] rm as' h Q) (hy1 : y.name = "<init>")
    (X : Stand p l e R s m args below meth c T locs cells slots) (hx : p.tables.exec = Jvm.exec) (hZ : Z.Warmed39 s.vm) {own : String} {index W : Nat} (hown : s.vm.findClass own = some m.cls)
    (wl : (Cond.methodLink own index y).before a0 Z = true) (wi : (Cond.instanceMethod y).before a0 Z = true) (wz : (Cond.initialized y.cls).before a0 Z = true) (wc : (Cond.codeWith y bytes maxL none hs).before a0 Z = true)
    (hy : y.cls ≠ "java/lang/invoke/MethodHandle" ∧ y.cls ≠ "java/lang/invoke/VarHandle") (hf : rm.frames + 1 ≤ R.frames) (hl : W + (maxL + 11) + rm.locals ≤ R.locals) (hce : cells + rm.cells ≤ R.cells) (hsl : slots + rm.slots ≤ R.slots) (eT : T.heap = h)
    {g : JFrame} (hg : g.method = m) (hsize : g.locals.size = c.maxLocals) {a : Addr} {argsL rest : List Value} (has : (Value.ref a :: argsL).toArray = as') (hlen : ∀ sig, parseMethodDescriptor y.desc = some sig → argsL.length = sig.parameters.length)
    (hstack : g.stack = argsL.reverse ++ .ref a :: rest) (hW : 2 * g.monitorRoom + (rest.map fun v => v.category).sum ≤ W) (hdg : decode c.code g.pc = .ok (.invokespecial index, 3)) :
    ∃ (v : Option Value) (T' : State) (L : List Loc), Stand p l e R s m args below meth c T' (locs ++ L) (cells + rm.cells) (slots + rm.slots) ∧ Q v T'.heap L ∧
      ∀ {t : State}, Steps p.tables e below (T'.setTop { g with pc := g.pc + 3, stack := v.toList ++ rest }) t → Steps p.tables e below (T.setTop g) t := by
  obtain ⟨v, vm₁, ⟨T', L', k', n'⟩, -, X', ⟨L, hQ, e1, e2, e3⟩, st⟩ := X.specialBackH hx hy1 hown (mvT hZ wl) (mvT hZ wi) (mvT hZ wc) hy (backOfWith (W := W) C hZ wc wz hf hl) hg hsize (Steps.refl _) hlen hstack hW hdg (fun _ _ => ⟨has, eT, hce, hsl⟩)
  dsimp only [Pt.U, Pt.locs, Pt.cells, Pt.slots] at X' e1 e2 e3 st hQ
  subst e1 e2 e3
  exact ⟨v, T', L, X', hQ, fun {t} k => st.trans k⟩
theorem Con.virtual {y : MethodName} {bytes : ByteArray} {maxL : Nat} {ret : Option FieldType} {rm : Room} {as' : Array Value} {Q : Option Value → Heap → List Loc → Prop} (K : Con l Z y bytes maxL ret [] rm as' h Q)
    (X : Stand p l e R s m args below meth c T locs cells slots) (hx : p.tables.exec = Jvm.exec) (hZ : Z.Warmed39 s.vm) {own C : String} {index W : Nat} (hown : s.vm.findClass own = some m.cls)
    (wl : (Cond.methodLink own index y).before a0 Z = true) (wd : (Cond.declares y).before a0 Z = true) (wsel : (Cond.selects C y y).before a0 Z = true) (wi : (Cond.instanceMethod y).before a0 Z = true) (wz : (Cond.initialized y.cls).before a0 Z = true) (wc : (Cond.code y bytes maxL ret).before a0 Z = true)
    (hy : y.cls ≠ "java/lang/invoke/MethodHandle" ∧ y.cls ≠ "java/lang/invoke/VarHandle") (hf : rm.frames + 1 ≤ R.frames) (hl : W + (maxL + 11) + rm.locals ≤ R.locals) (hce : cells + rm.cells ≤ R.cells) (hsl : slots + rm.slots ≤ R.slots) (eT : T.heap = h)
    {g : JFrame} (hg : g.method = m) (hsize : g.locals.size = c.maxLocals) {a : Addr} (E : Exa Z h a C) {argsL rest : List Value} (has : (Value.ref a :: argsL).toArray = as') (hlen : ∀ sig, parseMethodDescriptor y.desc = some sig → argsL.length = sig.parameters.length)
    (hstack : g.stack = argsL.reverse ++ .ref a :: rest) (hW : 2 * g.monitorRoom + (rest.map fun v => v.category).sum ≤ W) (hdg : decode c.code g.pc = .ok (.invokevirtual index, 3)) :
    ∃ (v : Option Value) (T' : State) (L : List Loc), Stand p l e R s m args below meth c T' (locs ++ L) (cells + rm.cells) (slots + rm.slots) ∧ Q v T'.heap L ∧
      ∀ {t : State}, Steps p.tables e below (T'.setTop { g with pc := g.pc + 3, stack := v.toList ++ rest }) t → Steps p.tables e below (T.setTop g) t := by
  obtain ⟨cq, kq, qa, qb, qc⟩ := isOf hZ eT E
  obtain ⟨v, vm₁, ⟨T', L', k', n'⟩, -, X', ⟨L, hQ, e1, e2, e3⟩, st⟩ := X.virtualBack hx hown (mvT hZ wl) (mvT hZ wd) (notFace_of_selects (args := #[]) (mvT hZ wsel)) (mvT hZ wsel) (mvT hZ wi) hy (backOf (W := W) K hZ wc wz hf hl) qa qc hg hsize (Steps.refl _) hlen hstack hW hdg (fun _ _ => ⟨has, eT, hce, hsl⟩)
  dsimp only [Pt.U, Pt.locs, Pt.cells, Pt.slots] at X' e1 e2 e3 st hQ
  subst e1 e2 e3
  exact ⟨v, T', L, X', hQ, fun {t} k => st.trans k⟩
theorem Con.priv {y : MethodName} {bytes : ByteArray} {maxL : Nat} {ret : Option FieldType} {rm : Room} {as' : Array Value} {Q : Option Value → Heap → List Loc → Prop} (K : Con l Z y bytes maxL ret [] rm as' h Q)
    (X : Stand p l e R s m args below meth c T locs cells slots) (hx : p.tables.exec = Jvm.exec) (hZ : Z.Warmed39 s.vm) {own C : String} {index W kk : Nat} (hown : s.vm.findClass own = some m.cls)
    (wl : (Cond.methodLink own index y).before a0 Z = true) (wn : (Cond.instantiable y.cls kk).before a0 Z = true) (wp : (Cond.privateMethod y).before a0 Z = true) (wi : (Cond.instanceMethod y).before a0 Z = true) (wz : (Cond.initialized y.cls).before a0 Z = true) (wc : (Cond.code y bytes maxL ret).before a0 Z = true)
    (hy : y.cls ≠ "java/lang/invoke/MethodHandle" ∧ y.cls ≠ "java/lang/invoke/VarHandle") (hf : rm.frames + 1 ≤ R.frames) (hl : W + (maxL + 11) + rm.locals ≤ R.locals) (hce : cells + rm.cells ≤ R.cells) (hsl : slots + rm.slots ≤ R.slots) (eT : T.heap = h)
    {g : JFrame} (hg : g.method = m) (hsize : g.locals.size = c.maxLocals) {a : Addr} (E : Exa Z h a C) {argsL rest : List Value} (has : (Value.ref a :: argsL).toArray = as') (hlen : ∀ sig, parseMethodDescriptor y.desc = some sig → argsL.length = sig.parameters.length)
    (hstack : g.stack = argsL.reverse ++ .ref a :: rest) (hW : 2 * g.monitorRoom + (rest.map fun v => v.category).sum ≤ W) (hdg : decode c.code g.pc = .ok (.invokevirtual index, 3)) :
    ∃ (v : Option Value) (T' : State) (L : List Loc), Stand p l e R s m args below meth c T' (locs ++ L) (cells + rm.cells) (slots + rm.slots) ∧ Q v T'.heap L ∧
      ∀ {t : State}, Steps p.tables e below (T'.setTop { g with pc := g.pc + 3, stack := v.toList ++ rest }) t → Steps p.tables e below (T.setTop g) t := by
  have hpa : s.PrivateAt y := Cond.privateMethod_at (mvP hZ wp (args := args))
  have win : (Cond.instanceMethod y).before args s = true := mvT hZ wi
  have wnn : (Cond.instantiable y.cls kk).before args s = true := mvT hZ wn
  obtain ⟨ci, ki, i1, i2, i3, i4, -⟩ := Cond.instantiable_spec wnn
  have hni : ki.isInterface = false := (Bool.or_eq_false_iff.mp i4).1
  obtain ⟨cl, hcl, hob⟩ := E.cell
  obtain ⟨v, vm₁, ⟨T', L', k', n'⟩, -, X', ⟨L, hQ, e1, e2, e3⟩, st⟩ := X.privateBack hx hown (mvT hZ wl) win (selects_self_of_private i1 i2 hni hpa win hy) hpa (mvT hZ wc) hy (backOf (W := W) K hZ wc wz hf hl) hg hsize (Steps.refl _) (by rw [eT]; exact hcl) hob hlen hstack hW hdg (fun _ _ => ⟨has, eT, hce, hsl⟩)
  dsimp only [Pt.U, Pt.locs, Pt.cells, Pt.slots] at X' e1 e2 e3 st hQ
  subst e1 e2 e3
  exact ⟨v, T', L, X', hQ, fun {t} k => st.trans k⟩
theorem Con.virtualUp {x z : MethodName} {bytes : ByteArray} {maxL : Nat} {ret : Option FieldType} {rm : Room} {as' : Array Value} {Q : Option Value → Heap → List Loc → Prop} (K : Con l Z z bytes maxL ret [] rm as' h Q)
    (X : Stand p l e R s m args below meth c T locs cells slots) (hx : p.tables.exec = Jvm.exec) (hZ : Z.Warmed39 s.vm) {own C owner : String} {index W : Nat} (hown : s.vm.findClass own = some m.cls)
    (wl : (Cond.methodLink own index x).before a0 Z = true) (wsm : (Cond.sameMethod x.cls owner x.name x.desc).before a0 Z = true) (wd : (Cond.declares ⟨owner, x.name, x.desc⟩).before a0 Z = true) (wsel : (Cond.selects C x z).before a0 Z = true) (wi : (Cond.instanceMethod z).before a0 Z = true) (wz : (Cond.initialized z.cls).before a0 Z = true) (wc : (Cond.code z bytes maxL ret).before a0 Z = true)
    (ho : owner ≠ "java/lang/invoke/MethodHandle" ∧ owner ≠ "java/lang/invoke/VarHandle") (hf : rm.frames + 1 ≤ R.frames) (hl : W + (maxL + 11) + rm.locals ≤ R.locals) (hce : cells + rm.cells ≤ R.cells) (hsl : slots + rm.slots ≤ R.slots) (eT : T.heap = h)
    {g : JFrame} (hg : g.method = m) (hsize : g.locals.size = c.maxLocals) {a : Addr} (E : Exa Z h a C) {argsL rest : List Value} (has : (Value.ref a :: argsL).toArray = as') (hlen : ∀ sig, parseMethodDescriptor x.desc = some sig → argsL.length = sig.parameters.length)
    (hstack : g.stack = argsL.reverse ++ .ref a :: rest) (hW : 2 * g.monitorRoom + (rest.map fun v => v.category).sum ≤ W) (hdg : decode c.code g.pc = .ok (.invokevirtual index, 3)) :
    ∃ (v : Option Value) (T' : State) (L : List Loc), Stand p l e R s m args below meth c T' (locs ++ L) (cells + rm.cells) (slots + rm.slots) ∧ Q v T'.heap L ∧
      ∀ {t : State}, Steps p.tables e below (T'.setTop { g with pc := g.pc + 3, stack := v.toList ++ rest }) t → Steps p.tables e below (T.setTop g) t := by
  obtain ⟨cq, kq, qa, qb, qc⟩ := isOf hZ eT E
  obtain ⟨v, vm₁, ⟨T', L', k', n'⟩, -, X', ⟨L, hQ, e1, e2, e3⟩, st⟩ := X.virtualBackUp hx hown (mvT hZ wl) (mvT hZ wsm) (mvT hZ wd) ho (mvT hZ wsel) (mvT hZ wi) (backOf (W := W) K hZ wc wz hf hl) qa qc hg hsize (Steps.refl _) hlen hstack hW hdg (fun _ _ => ⟨has, eT, hce, hsl⟩)
  dsimp only [Pt.U, Pt.locs, Pt.cells, Pt.slots] at X' e1 e2 e3 st hQ
  subst e1 e2 e3
  exact ⟨v, T', L, X', hQ, fun {t} k => st.trans k⟩
/-- the cell of an object is one that the model knows -/
def Kn (h : Heap) (a : Addr) : Prop := ∃ cell : Cell, h[a]? = some cell ∧ cell.vm ≠ .unknown
theorem Kn.of_new {h' : Heap} {a : Addr} (u : ∃ cell : Cell, h'[a]? = some cell ∧ cell.vm = .none ∧ cell.monitor = {}) : Kn h' a := by obtain ⟨c, h1, h2, -⟩ := u; exact ⟨c, h1, by rw [h2]; simp⟩
theorem Kn.ext {h h' : Heap} {a : Addr} (F : Kn h a) (E : Ext h h') : Kn h' a := by obtain ⟨c, h1, h2⟩ := F; exact ⟨c, E.2 _ _ h1, h2⟩
theorem Kn.keep {h h' : Heap} {a : Addr} {ws : List Addr} (F : Kn h a) (K : Keep h h' ws) : Kn h' a := by
  obtain ⟨c, h1, h2⟩ := F; obtain ⟨c', q, -, q2, -⟩ := K.2.2 a c h1; exact ⟨c', q, by rw [q2]; exact h2⟩
theorem Kn.wr {h h' : Heap} {a b : Addr} {sl : Nat} {v : Value} (F : Kn h a) (W : Wr h h' b sl v) : Kn h' a := F.keep (Keep.of_wr W)
theorem Kn.fld {h : Heap} {a : Addr} {O n d : String} {v : Value} {Z : State} (F : Fld Z h a O n d v) : Kn h a := by obtain ⟨c, _, _, _, _, h1, -, -, h4, -⟩ := F; exact ⟨c, h1, h4⟩
theorem lremM {g : JFrame} {target : State} (X : Stand p l e R s m args below meth c T locs cells slots) (hx : p.tables.exec = Jvm.exec) (hg : g.method = m) {x y : Int64} {rest : List Value} (hd : decode c.code g.pc = .ok (.lrem, 1)) (hs : g.stack = .long y :: .long x :: rest) (hy : y ≠ 0)
    (hr : Steps p.tables e below (T.setTop { g with pc := g.pc + 1, stack := .long (x % y) :: rest }) target) : Steps p.tables e below (T.setTop g) target := by
  exact XT.lrem X.here hx hg hd hs hy (by rw [lrem_mod]; exact hr)
theorem Sta.own_keep {Z : State} {h h' : Heap} {C n d : String} {v : Value} {ws : List Addr} (F : Sta Z h C n d v) (K : Keep h h' ws) (q : ∀ a ∈ ws, ∃ C', Exa Z h a C') : Sta Z h' C n d v := by
  obtain ⟨cf, i, k, f, st, cell, h1, h2, h3, h4, h5, h6, h7⟩ := F
  refine ⟨cf, i, k, f, st, cell, h1, h2, h3, h4, K.2.1 st cell h5 fun hm => ?_, h6, h7⟩
  obtain ⟨C', c2, _, g1, -, -, g4, -⟩ := q st hm
  cases h5.symm.trans g1
  rw [h6] at g4; cases g4
theorem own_nar {t : FieldType} {v : Value} (h : v.isRef = true) (ht : t.isReference = true) : narrow t v = v := by
  rcases ref_cases h with rfl | ⟨z, rfl⟩ <;> cases t <;> first | rfl | (cases ht)
theorem own_fit {t : FieldType} {v : Value} (h : v.isRef = true) (ht : t.isReference = true) : fits t v = true := by
  rcases ref_cases h with rfl | ⟨z, rfl⟩ <;> cases t <;> first | rfl | (cases ht)
theorem own_eq_int {t : Term} {k : Int32} {args : Array Value} {first s : State} {o : Option Outcome} {idx : List Nat} (h : (Cond.eq t (Term.int k)).value args first o s idx = some true) : t.eval args first o idx s = some (.int k) := by
  simp only [Cond.value, Term.eval] at h
  cases ht : t.eval args first o idx s with
  | none => simp [ht] at h
  | some x => cases x <;> simp [ht] at h ⊢; exact h
theorem pop2L {g : JFrame} {target : State} (X : Stand p l e R s m args below meth c T locs cells slots) (hx : p.tables.exec = Jvm.exec) (hg : g.method = m) {x : Int64} {rest : List Value} (hd : decode c.code g.pc = .ok (.pop2, 1)) (hs : g.stack = .long x :: rest)
    (hr : Steps p.tables e below (T.setTop { g with pc := g.pc + 1, stack := rest }) target) : Steps p.tables e below (T.setTop g) target := by
  subst hg
  jvm_step X.here [X.here.top, hx, hd, Op.pop2.wp_sem, hs, Value.category]
  exact hr
theorem own_tdiv (D k : Int) : (0 ≤ D ∧ D.tdiv k = D / k) ∨ (D < 0 ∧ D.tdiv k = -((-D) / k)) := by
  rcases Int.lt_or_le D 0 with h | h
  · refine Or.inr ⟨h, ?_⟩
    have e : D.tdiv k = -((-D).tdiv k) := by rw [Int.neg_tdiv]; omega
    rw [e, Int.tdiv_eq_ediv_of_nonneg (by omega)]
  · exact Or.inl ⟨h, Int.tdiv_eq_ediv_of_nonneg h⟩
theorem own_tmod (D k : Int) : (0 ≤ D ∧ D.tmod k = D % k) ∨ (D < 0 ∧ D.tmod k = -((-D) % k)) := by
  rcases Int.lt_or_le D 0 with h | h
  · refine Or.inr ⟨h, ?_⟩
    have e : D.tmod k = -((-D).tmod k) := by rw [Int.neg_tmod]; omega
    rw [e, Int.tmod_eq_emod_of_nonneg (by omega)]
  · exact Or.inl ⟨h, Int.tmod_eq_emod_of_nonneg h⟩
end Walk
end Jvm.OwnKit
namespace Jvm.Pilot.@@N@@
open Jvm Jvm.ClassFile Sem Op Lib Jvm.Free Jvm.Stand Jvm.LawKit Jvm.RoadKit Bundle Jvm.Pilot.@@N@@.Jvm.D Jvm.OwnKit
def own_f4 (x : Int64) (y : Int64) : Int64 := (if (x ^^^ y) < (0 : Int64) then (if ((x / y) * y) = x then (x / y) else ((x / y) - (1 : Int64))) else (x / y))
theorem own_ef4 (m : MethodId) (x : Int64) (y : Int64) : entryFrame m #[(.long x), (.long y)] 6 = mkF m 0 #[.val (.long x), .second, .val (.long y), .second, .unset, .unset] [] := by
  (first | (simp [entryFrame, mkF, argsToLocals, Value.category]; done) | rfl)
theorem own_d4_0 : decode jdk_29_method_49_code 0 = .ok (.lload_n 0, 1) := by decide +kernel
theorem own_d4_1 : decode jdk_29_method_49_code 1 = .ok (.lload_n 2, 1) := by decide +kernel
theorem own_d4_2 : decode jdk_29_method_49_code 2 = .ok (.ldiv, 1) := by decide +kernel
theorem own_d4_3 : decode jdk_29_method_49_code 3 = .ok (.lstore 4, 2) := by decide +kernel
theorem own_d4_5 : decode jdk_29_method_49_code 5 = .ok (.lload_n 0, 1) := by decide +kernel
theorem own_d4_6 : decode jdk_29_method_49_code 6 = .ok (.lload_n 2, 1) := by decide +kernel
theorem own_d4_7 : decode jdk_29_method_49_code 7 = .ok (.lxor, 1) := by decide +kernel
theorem own_d4_8 : decode jdk_29_method_49_code 8 = .ok (.lconst 0, 1) := by decide +kernel
theorem own_d4_9 : decode jdk_29_method_49_code 9 = .ok (.lcmp, 1) := by decide +kernel
theorem own_d4_10 : decode jdk_29_method_49_code 10 = .ok (.ifCond .ge 17, 3) := by decide +kernel
theorem own_d4_13 : decode jdk_29_method_49_code 13 = .ok (.lload 4, 2) := by decide +kernel
theorem own_d4_15 : decode jdk_29_method_49_code 15 = .ok (.lload_n 2, 1) := by decide +kernel
theorem own_d4_16 : decode jdk_29_method_49_code 16 = .ok (.lmul, 1) := by decide +kernel
theorem own_d4_17 : decode jdk_29_method_49_code 17 = .ok (.lload_n 0, 1) := by decide +kernel
theorem own_d4_18 : decode jdk_29_method_49_code 18 = .ok (.lcmp, 1) := by decide +kernel
theorem own_d4_19 : decode jdk_29_method_49_code 19 = .ok (.ifCond .eq 8, 3) := by decide +kernel
theorem own_d4_27 : decode jdk_29_method_49_code 27 = .ok (.lload 4, 2) := by decide +kernel
theorem own_d4_29 : decode jdk_29_method_49_code 29 = .ok (.lreturn, 1) := by decide +kernel
theorem own_d4_22 : decode jdk_29_method_49_code 22 = .ok (.lload 4, 2) := by decide +kernel
theorem own_d4_24 : decode jdk_29_method_49_code 24 = .ok (.lconst 1, 1) := by decide +kernel
theorem own_d4_25 : decode jdk_29_method_49_code 25 = .ok (.lsub, 1) := by decide +kernel
theorem own_d4_26 : decode jdk_29_method_49_code 26 = .ok (.lreturn, 1) := by decide +kernel
set_option maxRecDepth 65536 in
set_option maxHeartbeats 40000000 in
theorem own_rm4 (l : Launch) (Z : State) (a0 : Array Value) (hw : ∀ d ∈ tables_1, d.before a0 Z = true) (ws : List Jvm.Cond) (x : Int64) (y : Int64) (h0 : Heap) (n0 : Nat) (Z0 : n0 ≤ h0.size)  (hy : y ≠ 0) :
    Con l Z (⟨"java/lang/Math", "floorDiv", "(JJ)J"⟩ : MethodName) jdk_29_method_49_code 6 (some .long) ws ({ frames := 0, cells := 0, slots := 0, locals := 0 } : Room) #[(.long x), (.long y)] h0 (fun v h L => v = some (.long (own_f4 x y)) ∧ Fr n0 L ∧ h = h0) := by
  refine Con.intro (Jvm.Free.JP.mathPlain rfl (by decide +kernel)) ?_
  intro p e s m below meth c s₁ P hx hby hml hown hnm hret hlk hZ X0 e0 hP
  have N0 := Fr.nil n0
  have hown : s.vm.findClass "java/lang/Math" = some m.cls := hown
  refine Go.cast (own_ef4 m x y) ?_
  show Go p.tables e below P (s₁.setTop (mkF m 0 #[.val (.long x), .second, .val (.long y), .second, .unset, .unset] []))
  refine Go.s (fun kz => XT.lloadN X0.here hx rfl (hb hby own_d4_0) rfl kz) ?_
  show Go p.tables e below P (s₁.setTop (mkF m 1 #[.val (.long x), .second, .val (.long y), .second, .unset, .unset] [(.long x)]))
  refine Go.s (fun kz => XT.lloadN X0.here hx rfl (hb hby own_d4_1) rfl kz) ?_
  show Go p.tables e below P (s₁.setTop (mkF m 2 #[.val (.long x), .second, .val (.long y), .second, .unset, .unset] [(.long y), (.long x)]))
  refine Go.s (fun kz => XT.ldiv X0.here hx rfl (hb hby own_d4_2) rfl hy kz) ?_
  show Go p.tables e below P (s₁.setTop (mkF m 3 #[.val (.long x), .second, .val (.long y), .second, .unset, .unset] [(.long (x / y))]))
  refine Go.s (fun kz => XT.lstore X0.here hx rfl (hb hby own_d4_3) rfl (l' := #[.val (.long x), .second, .val (.long y), .second, .val (.long (x / y)), .second]) rfl kz) ?_
  show Go p.tables e below P (s₁.setTop (mkF m 5 #[.val (.long x), .second, .val (.long y), .second, .val (.long (x / y)), .second] []))
  refine Go.s (fun kz => XT.lloadN X0.here hx rfl (hb hby own_d4_5) rfl kz) ?_
  show Go p.tables e below P (s₁.setTop (mkF m 6 #[.val (.long x), .second, .val (.long y), .second, .val (.long (x / y)), .second] [(.long x)]))
  refine Go.s (fun kz => XT.lloadN X0.here hx rfl (hb hby own_d4_6) rfl kz) ?_
  show Go p.tables e below P (s₁.setTop (mkF m 7 #[.val (.long x), .second, .val (.long y), .second, .val (.long (x / y)), .second] [(.long y), (.long x)]))
  refine Go.s (fun kz => XT.lxor X0.here hx rfl (hb hby own_d4_7) rfl kz) ?_
  show Go p.tables e below P (s₁.setTop (mkF m 8 #[.val (.long x), .second, .val (.long y), .second, .val (.long (x / y)), .second] [(.long (x ^^^ y))]))
  refine Go.s (fun kz => XT.lconst X0.here hx rfl (hb hby own_d4_8) kz) ?_
  show Go p.tables e below P (s₁.setTop (mkF m 9 #[.val (.long x), .second, .val (.long y), .second, .val (.long (x / y)), .second] [(.long (0 : Int64)), (.long (x ^^^ y))]))
  refine Go.s (fun kz => XT.lcmp X0.here hx rfl (hb hby own_d4_9) rfl kz) ?_
  show Go p.tables e below P (s₁.setTop (mkF m 10 #[.val (.long x), .second, .val (.long y), .second, .val (.long (x / y)), .second] [(.int (XT.cmpL (x ^^^ y) (0 : Int64)))]))
  by_cases hc10 : (x ^^^ y) < (0 : Int64)
  · skip
    refine Go.s (fun kz => XS.ifNo X0.here hx rfl (hb hby own_d4_10) rfl (XT.ll_ge_f hc10) kz) ?_
    show Go p.tables e below P (s₁.setTop (mkF m 13 #[.val (.long x), .second, .val (.long y), .second, .val (.long (x / y)), .second] []))
    refine Go.s (fun kz => XT.lload X0.here hx rfl (hb hby own_d4_13) rfl kz) ?_
    show Go p.tables e below P (s₁.setTop (mkF m 15 #[.val (.long x), .second, .val (.long y), .second, .val (.long (x / y)), .second] [(.long (x / y))]))
    refine Go.s (fun kz => XT.lloadN X0.here hx rfl (hb hby own_d4_15) rfl kz) ?_
    show Go p.tables e below P (s₁.setTop (mkF m 16 #[.val (.long x), .second, .val (.long y), .second, .val (.long (x / y)), .second] [(.long y), (.long (x / y))]))
    refine Go.s (fun kz => XT.lmul X0.here hx rfl (hb hby own_d4_16) rfl kz) ?_
    show Go p.tables e below P (s₁.setTop (mkF m 17 #[.val (.long x), .second, .val (.long y), .second, .val (.long (x / y)), .second] [(.long ((x / y) * y))]))
    refine Go.s (fun kz => XT.lloadN X0.here hx rfl (hb hby own_d4_17) rfl kz) ?_
    show Go p.tables e below P (s₁.setTop (mkF m 18 #[.val (.long x), .second, .val (.long y), .second, .val (.long (x / y)), .second] [(.long x), (.long ((x / y) * y))]))
    refine Go.s (fun kz => XT.lcmp X0.here hx rfl (hb hby own_d4_18) rfl kz) ?_
    show Go p.tables e below P (s₁.setTop (mkF m 19 #[.val (.long x), .second, .val (.long y), .second, .val (.long (x / y)), .second] [(.int (XT.cmpL ((x / y) * y) x))]))
    by_cases hc19 : ((x / y) * y) = x
    · skip
      refine Go.s (fun kz => XS.ifYes X0.here hx rfl (pc0 := 19) (pc' := 27) rfl (hb hby own_d4_19) rfl (XT.ll_eq_t hc19) (by decide) (by decide) kz) ?_
      show Go p.tables e below P (s₁.setTop (mkF m 27 #[.val (.long x), .second, .val (.long y), .second, .val (.long (x / y)), .second] []))
      refine Go.s (fun kz => XT.lload X0.here hx rfl (hb hby own_d4_27) rfl kz) ?_
      show Go p.tables e below P (s₁.setTop (mkF m 29 #[.val (.long x), .second, .val (.long y), .second, .val (.long (x / y)), .second] [(.long (x / y))]))
      exact Go.retJ X0 hx hlk hret (hb hby own_d4_29) (fun U hU hF => hP U _ _ (by rw [hU, e0]; exact ⟨congrArg some (congrArg Value.long (Eq.symm (by rw [own_f4]; rw [if_pos hc10]; rw [if_pos hc19]))), N0, rfl⟩) ⟨hF.1, hF.2.1, hF.2.2.mono (by decide) (by decide)⟩)
    · skip
      refine Go.s (fun kz => XS.ifNo X0.here hx rfl (hb hby own_d4_19) rfl (XT.ll_eq_f hc19) kz) ?_
      show Go p.tables e below P (s₁.setTop (mkF m 22 #[.val (.long x), .second, .val (.long y), .second, .val (.long (x / y)), .second] []))
      refine Go.s (fun kz => XT.lload X0.here hx rfl (hb hby own_d4_22) rfl kz) ?_
      show Go p.tables e below P (s₁.setTop (mkF m 24 #[.val (.long x), .second, .val (.long y), .second, .val (.long (x / y)), .second] [(.long (x / y))]))
      refine Go.s (fun kz => XT.lconst X0.here hx rfl (hb hby own_d4_24) kz) ?_
      show Go p.tables e below P (s₁.setTop (mkF m 25 #[.val (.long x), .second, .val (.long y), .second, .val (.long (x / y)), .second] [(.long (1 : Int64)), (.long (x / y))]))
      refine Go.s (fun kz => XT.lsub X0.here hx rfl (hb hby own_d4_25) rfl kz) ?_
      show Go p.tables e below P (s₁.setTop (mkF m 26 #[.val (.long x), .second, .val (.long y), .second, .val (.long (x / y)), .second] [(.long ((x / y) - (1 : Int64)))]))
      exact Go.retJ X0 hx hlk hret (hb hby own_d4_26) (fun U hU hF => hP U _ _ (by rw [hU, e0]; exact ⟨congrArg some (congrArg Value.long (Eq.symm (by rw [own_f4]; rw [if_pos hc10]; rw [if_neg hc19]))), N0, rfl⟩) ⟨hF.1, hF.2.1, hF.2.2.mono (by decide) (by decide)⟩)
  · skip
    refine Go.s (fun kz => XS.ifYes X0.here hx rfl (pc0 := 10) (pc' := 27) rfl (hb hby own_d4_10) rfl (XT.ll_ge_t hc10) (by decide) (by decide) kz) ?_
    show Go p.tables e below P (s₁.setTop (mkF m 27 #[.val (.long x), .second, .val (.long y), .second, .val (.long (x / y)), .second] []))
    refine Go.s (fun kz => XT.lload X0.here hx rfl (hb hby own_d4_27) rfl kz) ?_
    show Go p.tables e below P (s₁.setTop (mkF m 29 #[.val (.long x), .second, .val (.long y), .second, .val (.long (x / y)), .second] [(.long (x / y))]))
    exact Go.retJ X0 hx hlk hret (hb hby own_d4_29) (fun U hU hF => hP U _ _ (by rw [hU, e0]; exact ⟨congrArg some (congrArg Value.long (Eq.symm (by rw [own_f4]; rw [if_neg hc10]))), N0, rfl⟩) ⟨hF.1, hF.2.1, hF.2.2.mono (by decide) (by decide)⟩)
def own_f5 (x : Int64) (y : Int64) : Int64 := (if (x ^^^ y) < (0 : Int64) then (if (x % y) = (0 : Int64) then (x % y) else ((x % y) + y)) else (x % y))
theorem own_ef5 (m : MethodId) (x : Int64) (y : Int64) : entryFrame m #[(.long x), (.long y)] 6 = mkF m 0 #[.val (.long x), .second, .val (.long y), .second, .unset, .unset] [] := by
  (first | (simp [entryFrame, mkF, argsToLocals, Value.category]; done) | rfl)
theorem own_d5_0 : decode jdk_29_method_52_code 0 = .ok (.lload_n 0, 1) := by decide +kernel
theorem own_d5_1 : decode jdk_29_method_52_code 1 = .ok (.lload_n 2, 1) := by decide +kernel
theorem own_d5_2 : decode jdk_29_method_52_code 2 = .ok (.lrem, 1) := by decide +kernel
theorem own_d5_3 : decode jdk_29_method_52_code 3 = .ok (.lstore 4, 2) := by decide +kernel
theorem own_d5_5 : decode jdk_29_method_52_code 5 = .ok (.lload_n 0, 1) := by decide +kernel
theorem own_d5_6 : decode jdk_29_method_52_code 6 = .ok (.lload_n 2, 1) := by decide +kernel
theorem own_d5_7 : decode jdk_29_method_52_code 7 = .ok (.lxor, 1) := by decide +kernel
theorem own_d5_8 : decode jdk_29_method_52_code 8 = .ok (.lconst 0, 1) := by decide +kernel
theorem own_d5_9 : decode jdk_29_method_52_code 9 = .ok (.lcmp, 1) := by decide +kernel
theorem own_d5_10 : decode jdk_29_method_52_code 10 = .ok (.ifCond .ge 15, 3) := by decide +kernel
theorem own_d5_13 : decode jdk_29_method_52_code 13 = .ok (.lload 4, 2) := by decide +kernel
theorem own_d5_15 : decode jdk_29_method_52_code 15 = .ok (.lconst 0, 1) := by decide +kernel
theorem own_d5_16 : decode jdk_29_method_52_code 16 = .ok (.lcmp, 1) := by decide +kernel
theorem own_d5_17 : decode jdk_29_method_52_code 17 = .ok (.ifCond .eq 8, 3) := by decide +kernel
theorem own_d5_25 : decode jdk_29_method_52_code 25 = .ok (.lload 4, 2) := by decide +kernel
theorem own_d5_27 : decode jdk_29_method_52_code 27 = .ok (.lreturn, 1) := by decide +kernel
theorem own_d5_20 : decode jdk_29_method_52_code 20 = .ok (.lload 4, 2) := by decide +kernel
theorem own_d5_22 : decode jdk_29_method_52_code 22 = .ok (.lload_n 2, 1) := by decide +kernel
theorem own_d5_23 : decode jdk_29_method_52_code 23 = .ok (.ladd, 1) := by decide +kernel
theorem own_d5_24 : decode jdk_29_method_52_code 24 = .ok (.lreturn, 1) := by decide +kernel
set_option maxRecDepth 65536 in
set_option maxHeartbeats 40000000 in
theorem own_rm5 (l : Launch) (Z : State) (a0 : Array Value) (hw : ∀ d ∈ tables_1, d.before a0 Z = true) (ws : List Jvm.Cond) (x : Int64) (y : Int64) (h0 : Heap) (n0 : Nat) (Z0 : n0 ≤ h0.size)  (hy : y ≠ 0) :
    Con l Z (⟨"java/lang/Math", "floorMod", "(JJ)J"⟩ : MethodName) jdk_29_method_52_code 6 (some .long) ws ({ frames := 0, cells := 0, slots := 0, locals := 0 } : Room) #[(.long x), (.long y)] h0 (fun v h L => v = some (.long (own_f5 x y)) ∧ Fr n0 L ∧ h = h0) := by
  refine Con.intro (Jvm.Free.JP.mathPlain rfl (by decide +kernel)) ?_
  intro p e s m below meth c s₁ P hx hby hml hown hnm hret hlk hZ X0 e0 hP
  have N0 := Fr.nil n0
  have hown : s.vm.findClass "java/lang/Math" = some m.cls := hown
  refine Go.cast (own_ef5 m x y) ?_
  show Go p.tables e below P (s₁.setTop (mkF m 0 #[.val (.long x), .second, .val (.long y), .second, .unset, .unset] []))
  refine Go.s (fun kz => XT.lloadN X0.here hx rfl (hb hby own_d5_0) rfl kz) ?_
  show Go p.tables e below P (s₁.setTop (mkF m 1 #[.val (.long x), .second, .val (.long y), .second, .unset, .unset] [(.long x)]))
  refine Go.s (fun kz => XT.lloadN X0.here hx rfl (hb hby own_d5_1) rfl kz) ?_
  show Go p.tables e below P (s₁.setTop (mkF m 2 #[.val (.long x), .second, .val (.long y), .second, .unset, .unset] [(.long y), (.long x)]))
  refine Go.s (fun kz => lremM X0 hx rfl (hb hby own_d5_2) rfl hy kz) ?_
  show Go p.tables e below P (s₁.setTop (mkF m 3 #[.val (.long x), .second, .val (.long y), .second, .unset, .unset] [(.long (x % y))]))
  refine Go.s (fun kz => XT.lstore X0.here hx rfl (hb hby own_d5_3) rfl (l' := #[.val (.long x), .second, .val (.long y), .second, .val (.long (x % y)), .second]) rfl kz) ?_
  show Go p.tables e below P (s₁.setTop (mkF m 5 #[.val (.long x), .second, .val (.long y), .second, .val (.long (x % y)), .second] []))
  refine Go.s (fun kz => XT.lloadN X0.here hx rfl (hb hby own_d5_5) rfl kz) ?_
  show Go p.tables e below P (s₁.setTop (mkF m 6 #[.val (.long x), .second, .val (.long y), .second, .val (.long (x % y)), .second] [(.long x)]))
  refine Go.s (fun kz => XT.lloadN X0.here hx rfl (hb hby own_d5_6) rfl kz) ?_
  show Go p.tables e below P (s₁.setTop (mkF m 7 #[.val (.long x), .second, .val (.long y), .second, .val (.long (x % y)), .second] [(.long y), (.long x)]))
  refine Go.s (fun kz => XT.lxor X0.here hx rfl (hb hby own_d5_7) rfl kz) ?_
  show Go p.tables e below P (s₁.setTop (mkF m 8 #[.val (.long x), .second, .val (.long y), .second, .val (.long (x % y)), .second] [(.long (x ^^^ y))]))
  refine Go.s (fun kz => XT.lconst X0.here hx rfl (hb hby own_d5_8) kz) ?_
  show Go p.tables e below P (s₁.setTop (mkF m 9 #[.val (.long x), .second, .val (.long y), .second, .val (.long (x % y)), .second] [(.long (0 : Int64)), (.long (x ^^^ y))]))
  refine Go.s (fun kz => XT.lcmp X0.here hx rfl (hb hby own_d5_9) rfl kz) ?_
  show Go p.tables e below P (s₁.setTop (mkF m 10 #[.val (.long x), .second, .val (.long y), .second, .val (.long (x % y)), .second] [(.int (XT.cmpL (x ^^^ y) (0 : Int64)))]))
  by_cases hc10 : (x ^^^ y) < (0 : Int64)
  · skip
    refine Go.s (fun kz => XS.ifNo X0.here hx rfl (hb hby own_d5_10) rfl (XT.ll_ge_f hc10) kz) ?_
    show Go p.tables e below P (s₁.setTop (mkF m 13 #[.val (.long x), .second, .val (.long y), .second, .val (.long (x % y)), .second] []))
    refine Go.s (fun kz => XT.lload X0.here hx rfl (hb hby own_d5_13) rfl kz) ?_
    show Go p.tables e below P (s₁.setTop (mkF m 15 #[.val (.long x), .second, .val (.long y), .second, .val (.long (x % y)), .second] [(.long (x % y))]))
    refine Go.s (fun kz => XT.lconst X0.here hx rfl (hb hby own_d5_15) kz) ?_
    show Go p.tables e below P (s₁.setTop (mkF m 16 #[.val (.long x), .second, .val (.long y), .second, .val (.long (x % y)), .second] [(.long (0 : Int64)), (.long (x % y))]))
    refine Go.s (fun kz => XT.lcmp X0.here hx rfl (hb hby own_d5_16) rfl kz) ?_
    show Go p.tables e below P (s₁.setTop (mkF m 17 #[.val (.long x), .second, .val (.long y), .second, .val (.long (x % y)), .second] [(.int (XT.cmpL (x % y) (0 : Int64)))]))
    by_cases hc17 : (x % y) = (0 : Int64)
    · skip
      refine Go.s (fun kz => XS.ifYes X0.here hx rfl (pc0 := 17) (pc' := 25) rfl (hb hby own_d5_17) rfl (XT.ll_eq_t hc17) (by decide) (by decide) kz) ?_
      show Go p.tables e below P (s₁.setTop (mkF m 25 #[.val (.long x), .second, .val (.long y), .second, .val (.long (x % y)), .second] []))
      refine Go.s (fun kz => XT.lload X0.here hx rfl (hb hby own_d5_25) rfl kz) ?_
      show Go p.tables e below P (s₁.setTop (mkF m 27 #[.val (.long x), .second, .val (.long y), .second, .val (.long (x % y)), .second] [(.long (x % y))]))
      exact Go.retJ X0 hx hlk hret (hb hby own_d5_27) (fun U hU hF => hP U _ _ (by rw [hU, e0]; exact ⟨congrArg some (congrArg Value.long (Eq.symm (by rw [own_f5]; rw [if_pos hc10]; rw [if_pos hc17]))), N0, rfl⟩) ⟨hF.1, hF.2.1, hF.2.2.mono (by decide) (by decide)⟩)
    · skip
      refine Go.s (fun kz => XS.ifNo X0.here hx rfl (hb hby own_d5_17) rfl (XT.ll_eq_f hc17) kz) ?_
      show Go p.tables e below P (s₁.setTop (mkF m 20 #[.val (.long x), .second, .val (.long y), .second, .val (.long (x % y)), .second] []))
      refine Go.s (fun kz => XT.lload X0.here hx rfl (hb hby own_d5_20) rfl kz) ?_
      show Go p.tables e below P (s₁.setTop (mkF m 22 #[.val (.long x), .second, .val (.long y), .second, .val (.long (x % y)), .second] [(.long (x % y))]))
      refine Go.s (fun kz => XT.lloadN X0.here hx rfl (hb hby own_d5_22) rfl kz) ?_
      show Go p.tables e below P (s₁.setTop (mkF m 23 #[.val (.long x), .second, .val (.long y), .second, .val (.long (x % y)), .second] [(.long y), (.long (x % y))]))
      refine Go.s (fun kz => XT.ladd X0.here hx rfl (hb hby own_d5_23) rfl kz) ?_
      show Go p.tables e below P (s₁.setTop (mkF m 24 #[.val (.long x), .second, .val (.long y), .second, .val (.long (x % y)), .second] [(.long ((x % y) + y))]))
      exact Go.retJ X0 hx hlk hret (hb hby own_d5_24) (fun U hU hF => hP U _ _ (by rw [hU, e0]; exact ⟨congrArg some (congrArg Value.long (Eq.symm (by rw [own_f5]; rw [if_pos hc10]; rw [if_neg hc17]))), N0, rfl⟩) ⟨hF.1, hF.2.1, hF.2.2.mono (by decide) (by decide)⟩)
  · skip
    refine Go.s (fun kz => XS.ifYes X0.here hx rfl (pc0 := 10) (pc' := 25) rfl (hb hby own_d5_10) rfl (XT.ll_ge_t hc10) (by decide) (by decide) kz) ?_
    show Go p.tables e below P (s₁.setTop (mkF m 25 #[.val (.long x), .second, .val (.long y), .second, .val (.long (x % y)), .second] []))
    refine Go.s (fun kz => XT.lload X0.here hx rfl (hb hby own_d5_25) rfl kz) ?_
    show Go p.tables e below P (s₁.setTop (mkF m 27 #[.val (.long x), .second, .val (.long y), .second, .val (.long (x % y)), .second] [(.long (x % y))]))
    exact Go.retJ X0 hx hlk hret (hb hby own_d5_27) (fun U hU hF => hP U _ _ (by rw [hU, e0]; exact ⟨congrArg some (congrArg Value.long (Eq.symm (by rw [own_f5]; rw [if_neg hc10]))), N0, rfl⟩) ⟨hF.1, hF.2.1, hF.2.2.mono (by decide) (by decide)⟩)
theorem own_ef1 (m : MethodId) (a : Addr) (ar : Value) (har : ar.isRef = true) : entryFrame m #[(.ref a), ar] 2 = mkF m 0 #[.val (.ref a), .val ar] [] := by
  rcases ref_cases har with rfl | ⟨_, rfl⟩ <;>
  (first | (simp [entryFrame, mkF, argsToLocals, Value.category]; done) | rfl)
theorem own_pn_0 : plainName "com/example/tempo_feed/tempofeed/core/DailyPolls" = true := by first | (simp [plainName, overriddenIn]; done) | decide +kernel
theorem own_d1_0 : decode prog_13_method_1_code 0 = .ok (.aload_n 0, 1) := by decide +kernel
theorem own_d1_1 : decode prog_13_method_1_code 1 = .ok (.invokespecial 1, 3) := by decide +kernel
theorem own_d1_4 : decode prog_13_method_1_code 4 = .ok (.aload_n 0, 1) := by decide +kernel
theorem own_d1_5 : decode prog_13_method_1_code 5 = .ok (.aload_n 1, 1) := by decide +kernel
theorem own_d1_6 : decode prog_13_method_1_code 6 = .ok (.putfield 7, 3) := by decide +kernel
theorem own_d1_9 : decode prog_13_method_1_code 9 = .ok (.return_, 1) := by decide +kernel
set_option maxRecDepth 65536 in
set_option maxHeartbeats 40000000 in
theorem own_rm1 (l : Launch) (Z : State) (a0 : Array Value) (hw : ∀ d ∈ tables_1, d.before a0 Z = true) (ws : List Jvm.Cond) (a : Addr) (ar : Value) (h0 : Heap) (n0 : Nat) (Z0 : n0 ≤ h0.size) (E0 : Exa Z h0 a "com/example/tempo_feed/tempofeed/core/DailyPolls") (U0 : Kn h0 a) (G0 : n0 ≤ a) (hr_ar : ar.isRef = true)  :
    Con l Z (⟨"com/example/tempo_feed/tempofeed/core/DailyPolls", "<init>", "([I)V"⟩ : MethodName) prog_13_method_1_code 2 none ws ({ frames := 1, cells := 0, slots := 0, locals := 12 } : Room) #[(.ref a), ar] h0 (fun v h L => v = none ∧ Fr n0 L ∧ Keep h0 h [a] ∧ Fld Z h a "com/example/tempo_feed/tempofeed/core/DailyPolls" "secondsOfDay" "[I" ar) := by
  refine Con.intro (plainFor_of_name own_pn_0) ?_
  intro p e s m below meth c s₁ P hx hby hml hown hnm hret hlk hZ X0 e0 hP
  have N0 := Fr.nil n0
  have hown : s.vm.findClass "com/example/tempo_feed/tempofeed/core/DailyPolls" = some m.cls := hown
  refine Go.cast (own_ef1 m a ar hr_ar) ?_
  show Go p.tables e below P (s₁.setTop (mkF m 0 #[.val (.ref a), .val ar] []))
  refine Go.s (fun kz => XS.aloadN X0.here hx rfl (hb hby own_d1_0) rfl rfl kz) ?_
  show Go p.tables e below P (s₁.setTop (mkF m 1 #[.val (.ref a), .val ar] [(.ref a)]))
  obtain ⟨T1, X1, e1, st1⟩ := initO X0 hx hZ hown (hw _ (List.mem_of_getElem? (i := 9) rfl)) (hw _ (List.mem_of_getElem? (i := 10) rfl)) (hw _ (List.mem_of_getElem? (i := 11) rfl)) e0 (g := (mkF m 1 #[.val (.ref a), .val ar] [(.ref a)])) rfl (by rw [hml]; rfl) rfl (hb hby own_d1_1) (by decide) (W := 0) (by show 2 * 0 + _ ≤ _; exact Nat.le_of_eq rfl) (by decide)
  refine Go.s (fun {t} => st1 t) ?_
  show Go p.tables e below P (T1.setTop (mkF m 4 #[.val (.ref a), .val ar] []))
  refine Go.s (fun kz => XS.aloadN X1.here hx rfl (hb hby own_d1_4) rfl rfl kz) ?_
  show Go p.tables e below P (T1.setTop (mkF m 5 #[.val (.ref a), .val ar] [(.ref a)]))
  refine Go.s (fun kz => XS.aloadN X1.here hx rfl (hb hby own_d1_5) rfl hr_ar kz) ?_
  show Go p.tables e below P (T1.setTop (mkF m 6 #[.val (.ref a), .val ar] [ar, (.ref a)]))
  obtain ⟨u2, Fo2⟩ := fld_laid E0 U0 (hw _ (List.mem_of_getElem? (i := 4) rfl)) (Or.inr (hw _ (List.mem_of_getElem? (i := 13) rfl)))
  obtain ⟨T2, H2, X2, e2, W2, st2⟩ := putF X1 hx hZ hown (host := "") (Or.inl (hw _ (List.mem_of_getElem? (i := 12) rfl))) Via.refl e1 Fo2 E0 (Or.inr ⟨(hw _ (List.mem_of_getElem? (i := 13) rfl)), rfl, hnm⟩) (hw _ (List.mem_of_getElem? (i := 4) rfl)) (ty := (.array .int)) (by decide) (own_nar hr_ar rfl) (own_fit hr_ar rfl) (g := (mkF m 6 #[.val (.ref a), .val ar] [ar, (.ref a)])) rfl rfl (hb hby own_d1_6)
  refine Go.s (fun {t} => st2 t) ?_
  have Fw2 := Fld.same W2 Fo2
  have E0_3 := Exa.wr W2 E0
  have U0_4 := Kn.wr U0 W2
  have N2 := Fr.snoc X2 N0 G0
  have Zs2 := Nat.le_trans Z0 (Keep.of_wr W2).1
  have K2 : Keep h0 H2 [a] := (Keep.refl h0 [a]).wr W2 (Or.inl (List.mem_of_getElem? (i := 0) rfl))
  show Go p.tables e below P (T2.setTop (mkF m 9 #[.val (.ref a), .val ar] []))
  exact Go.retV X2 hx hlk hret (hb hby own_d1_9) (fun U hU hF => hP U _ _ (by rw [hU, e2]; exact ⟨rfl, N2, K2, Fw2⟩) ⟨hF.1, hF.2.1, hF.2.2.mono (by decide) (by decide)⟩)
theorem own_ef8_1 (m : MethodId) (b : Addr) (key : Int32) : entryFrame m #[(.ref b), (.int (0 : Int32)), (.int (1 : Int32)), (.int key)] 8 = mkF m 0 #[.val (.ref b), .val (.int (0 : Int32)), .val (.int (1 : Int32)), .val (.int key), .unset, .unset, .unset, .unset] [] := by
  (first | (simp [entryFrame, mkF, argsToLocals, Value.category]; done) | rfl)
theorem own_pn_1 : plainName "java/util/Arrays" = true := by first | (simp [plainName, overriddenIn]; done) | decide +kernel
theorem own_d8_0 : decode jdk_65_method_59_code 0 = .ok (.iload_n 1, 1) := by decide +kernel
theorem own_d8_1 : decode jdk_65_method_59_code 1 = .ok (.istore 4, 2) := by decide +kernel
theorem own_d8_3 : decode jdk_65_method_59_code 3 = .ok (.iload_n 2, 1) := by decide +kernel
theorem own_d8_4 : decode jdk_65_method_59_code 4 = .ok (.iconst 1, 1) := by decide +kernel
theorem own_d8_5 : decode jdk_65_method_59_code 5 = .ok (.isub, 1) := by decide +kernel
theorem own_d8_6 : decode jdk_65_method_59_code 6 = .ok (.istore 5, 2) := by decide +kernel
theorem own_d8_8 : decode jdk_65_method_59_code 8 = .ok (.iload 4, 2) := by decide +kernel
theorem own_d8_10 : decode jdk_65_method_59_code 10 = .ok (.iload 5, 2) := by decide +kernel
theorem own_d8_12 : decode jdk_65_method_59_code 12 = .ok (.if_icmp .gt 54, 3) := by decide +kernel
theorem own_d8_15 : decode jdk_65_method_59_code 15 = .ok (.iload 4, 2) := by decide +kernel
theorem own_d8_17 : decode jdk_65_method_59_code 17 = .ok (.iload 5, 2) := by decide +kernel
theorem own_d8_19 : decode jdk_65_method_59_code 19 = .ok (.iadd, 1) := by decide +kernel
theorem own_d8_20 : decode jdk_65_method_59_code 20 = .ok (.iconst 1, 1) := by decide +kernel
theorem own_d8_21 : decode jdk_65_method_59_code 21 = .ok (.iushr, 1) := by decide +kernel
theorem own_d8_22 : decode jdk_65_method_59_code 22 = .ok (.istore 6, 2) := by decide +kernel
theorem own_d8_24 : decode jdk_65_method_59_code 24 = .ok (.aload_n 0, 1) := by decide +kernel
theorem own_d8_25 : decode jdk_65_method_59_code 25 = .ok (.iload 6, 2) := by decide +kernel
theorem own_d8_27 : decode jdk_65_method_59_code 27 = .ok (.iaload, 1) := by decide +kernel
theorem own_d8_28 : decode jdk_65_method_59_code 28 = .ok (.istore 7, 2) := by decide +kernel
theorem own_d8_30 : decode jdk_65_method_59_code 30 = .ok (.iload 7, 2) := by decide +kernel
theorem own_d8_32 : decode jdk_65_method_59_code 32 = .ok (.iload_n 3, 1) := by decide +kernel
theorem own_d8_33 : decode jdk_65_method_59_code 33 = .ok (.if_icmp .ge 12, 3) := by decide +kernel
theorem own_d8_36 : decode jdk_65_method_59_code 36 = .ok (.iload 6, 2) := by decide +kernel
theorem own_d8_38 : decode jdk_65_method_59_code 38 = .ok (.iconst 1, 1) := by decide +kernel
theorem own_d8_39 : decode jdk_65_method_59_code 39 = .ok (.iadd, 1) := by decide +kernel
theorem own_d8_40 : decode jdk_65_method_59_code 40 = .ok (.istore 4, 2) := by decide +kernel
theorem own_d8_42 : decode jdk_65_method_59_code 42 = .ok (.goto 21, 3) := by decide +kernel
theorem own_d8_63 : decode jdk_65_method_59_code 63 = .ok (.goto (-55), 3) := by decide +kernel
theorem own_d8_66 : decode jdk_65_method_59_code 66 = .ok (.iload 4, 2) := by decide +kernel
theorem own_d8_68 : decode jdk_65_method_59_code 68 = .ok (.iconst 1, 1) := by decide +kernel
theorem own_d8_69 : decode jdk_65_method_59_code 69 = .ok (.iadd, 1) := by decide +kernel
theorem own_d8_70 : decode jdk_65_method_59_code 70 = .ok (.ineg, 1) := by decide +kernel
theorem own_d8_71 : decode jdk_65_method_59_code 71 = .ok (.ireturn, 1) := by decide +kernel
theorem own_d8_45 : decode jdk_65_method_59_code 45 = .ok (.iload 7, 2) := by decide +kernel
theorem own_d8_47 : decode jdk_65_method_59_code 47 = .ok (.iload_n 3, 1) := by decide +kernel
theorem own_d8_48 : decode jdk_65_method_59_code 48 = .ok (.if_icmp .le 12, 3) := by decide +kernel
theorem own_d8_51 : decode jdk_65_method_59_code 51 = .ok (.iload 6, 2) := by decide +kernel
theorem own_d8_53 : decode jdk_65_method_59_code 53 = .ok (.iconst 1, 1) := by decide +kernel
theorem own_d8_54 : decode jdk_65_method_59_code 54 = .ok (.isub, 1) := by decide +kernel
theorem own_d8_55 : decode jdk_65_method_59_code 55 = .ok (.istore 5, 2) := by decide +kernel
theorem own_d8_57 : decode jdk_65_method_59_code 57 = .ok (.goto 6, 3) := by decide +kernel
theorem own_d8_60 : decode jdk_65_method_59_code 60 = .ok (.iload 6, 2) := by decide +kernel
theorem own_d8_62 : decode jdk_65_method_59_code 62 = .ok (.ireturn, 1) := by decide +kernel
set_option maxRecDepth 65536 in
set_option maxHeartbeats 40000000 in
theorem own_rm8_1 (l : Launch) (Z : State) (a0 : Array Value) (hw : ∀ d ∈ tables_1, d.before a0 Z = true) (ws : List Jvm.Cond) (b kk : Nat) (key s0 : Int32) (h0 : Heap) (n0 : Nat) (Z0 : n0 ≤ h0.size) (V_b : Arv Z h0 b kk .int 1 [.int s0] (.int (0 : Int32))) :
    Con l Z (⟨"java/util/Arrays", "binarySearch0", "([IIII)I"⟩ : MethodName) jdk_65_method_59_code 8 (some .int) ws ({ frames := 0, cells := 0, slots := 0, locals := 0 } : Room) #[(.ref b), (.int (0 : Int32)), (.int (1 : Int32)), (.int key)] h0 (fun v h L => ((v = some (.int (-2 : Int32)) ∧ s0 < key) ∨ (v = some (.int (-1 : Int32)) ∧ ¬ s0 < key ∧ key < s0) ∨ (v = some (.int (0 : Int32)) ∧ ¬ s0 < key ∧ ¬ key < s0)) ∧ Fr n0 L ∧ h = h0) := by
  refine Con.intro (plainFor_of_name own_pn_1) ?_
  intro p e s m below meth c s₁ P hx hby hml hown hnm hret hlk hZ X0 e0 hP
  have N0 := Fr.nil n0
  have hown : s.vm.findClass "java/util/Arrays" = some m.cls := hown
  refine Go.cast (own_ef8_1 m b key) ?_
  show Go p.tables e below P (s₁.setTop (mkF m 0 #[.val (.ref b), .val (.int (0 : Int32)), .val (.int (1 : Int32)), .val (.int key), .unset, .unset, .unset, .unset] []))
  refine Go.s (fun kz => XS.iloadN X0.here hx rfl (hb hby own_d8_0) rfl kz) ?_
  show Go p.tables e below P (s₁.setTop (mkF m 1 #[.val (.ref b), .val (.int (0 : Int32)), .val (.int (1 : Int32)), .val (.int key), .unset, .unset, .unset, .unset] [(.int (0 : Int32))]))
  refine Go.s (fun kz => XS.istore X0.here hx rfl (hb hby own_d8_1) rfl (l' := #[.val (.ref b), .val (.int (0 : Int32)), .val (.int (1 : Int32)), .val (.int key), .val (.int (0 : Int32)), .unset, .unset, .unset]) rfl kz) ?_
  show Go p.tables e below P (s₁.setTop (mkF m 3 #[.val (.ref b), .val (.int (0 : Int32)), .val (.int (1 : Int32)), .val (.int key), .val (.int (0 : Int32)), .unset, .unset, .unset] []))
  refine Go.s (fun kz => XS.iloadN X0.here hx rfl (hb hby own_d8_3) rfl kz) ?_
  show Go p.tables e below P (s₁.setTop (mkF m 4 #[.val (.ref b), .val (.int (0 : Int32)), .val (.int (1 : Int32)), .val (.int key), .val (.int (0 : Int32)), .unset, .unset, .unset] [(.int (1 : Int32))]))
  refine Go.s (fun kz => XS.iconst X0.here hx rfl (hb hby own_d8_4) kz) ?_
  show Go p.tables e below P (s₁.setTop (mkF m 5 #[.val (.ref b), .val (.int (0 : Int32)), .val (.int (1 : Int32)), .val (.int key), .val (.int (0 : Int32)), .unset, .unset, .unset] [(.int (1 : Int32)), (.int (1 : Int32))]))
  refine Go.s (fun kz => XS.isub X0.here hx rfl (hb hby own_d8_5) rfl kz) ?_
  show Go p.tables e below P (s₁.setTop (mkF m 6 #[.val (.ref b), .val (.int (0 : Int32)), .val (.int (1 : Int32)), .val (.int key), .val (.int (0 : Int32)), .unset, .unset, .unset] [(.int ((1 : Int32) - (1 : Int32)))]))
  rw [show ((1 : Int32) - (1 : Int32)) = (0 : Int32) from by decide]
  show Go p.tables e below P (s₁.setTop (mkF m 6 #[.val (.ref b), .val (.int (0 : Int32)), .val (.int (1 : Int32)), .val (.int key), .val (.int (0 : Int32)), .unset, .unset, .unset] [(.int (0 : Int32))]))
  refine Go.s (fun kz => XS.istore X0.here hx rfl (hb hby own_d8_6) rfl (l' := #[.val (.ref b), .val (.int (0 : Int32)), .val (.int (1 : Int32)), .val (.int key), .val (.int (0 : Int32)), .val (.int (0 : Int32)), .unset, .unset]) rfl kz) ?_
  show Go p.tables e below P (s₁.setTop (mkF m 8 #[.val (.ref b), .val (.int (0 : Int32)), .val (.int (1 : Int32)), .val (.int key), .val (.int (0 : Int32)), .val (.int (0 : Int32)), .unset, .unset] []))
  refine Go.s (fun kz => XS.iload X0.here hx rfl (hb hby own_d8_8) rfl kz) ?_
  show Go p.tables e below P (s₁.setTop (mkF m 10 #[.val (.ref b), .val (.int (0 : Int32)), .val (.int (1 : Int32)), .val (.int key), .val (.int (0 : Int32)), .val (.int (0 : Int32)), .unset, .unset] [(.int (0 : Int32))]))
  refine Go.s (fun kz => XS.iload X0.here hx rfl (hb hby own_d8_10) rfl kz) ?_
  show Go p.tables e below P (s₁.setTop (mkF m 12 #[.val (.ref b), .val (.int (0 : Int32)), .val (.int (1 : Int32)), .val (.int key), .val (.int (0 : Int32)), .val (.int (0 : Int32)), .unset, .unset] [(.int (0 : Int32)), (.int (0 : Int32))]))
  refine Go.s (fun kz => XS.icmpNo X0.here hx rfl (hb hby own_d8_12) rfl (XT.ii_gt_f (by decide)) kz) ?_
  show Go p.tables e below P (s₁.setTop (mkF m 15 #[.val (.ref b), .val (.int (0 : Int32)), .val (.int (1 : Int32)), .val (.int key), .val (.int (0 : Int32)), .val (.int (0 : Int32)), .unset, .unset] []))
  refine Go.s (fun kz => XS.iload X0.here hx rfl (hb hby own_d8_15) rfl kz) ?_
  show Go p.tables e below P (s₁.setTop (mkF m 17 #[.val (.ref b), .val (.int (0 : Int32)), .val (.int (1 : Int32)), .val (.int key), .val (.int (0 : Int32)), .val (.int (0 : Int32)), .unset, .unset] [(.int (0 : Int32))]))
  refine Go.s (fun kz => XS.iload X0.here hx rfl (hb hby own_d8_17) rfl kz) ?_
  show Go p.tables e below P (s₁.setTop (mkF m 19 #[.val (.ref b), .val (.int (0 : Int32)), .val (.int (1 : Int32)), .val (.int key), .val (.int (0 : Int32)), .val (.int (0 : Int32)), .unset, .unset] [(.int (0 : Int32)), (.int (0 : Int32))]))
  refine Go.s (fun kz => XS.iadd X0.here hx rfl (hb hby own_d8_19) rfl kz) ?_
  show Go p.tables e below P (s₁.setTop (mkF m 20 #[.val (.ref b), .val (.int (0 : Int32)), .val (.int (1 : Int32)), .val (.int key), .val (.int (0 : Int32)), .val (.int (0 : Int32)), .unset, .unset] [(.int ((0 : Int32) + (0 : Int32)))]))
  rw [show ((0 : Int32) + (0 : Int32)) = (0 : Int32) from by decide]
  show Go p.tables e below P (s₁.setTop (mkF m 20 #[.val (.ref b), .val (.int (0 : Int32)), .val (.int (1 : Int32)), .val (.int key), .val (.int (0 : Int32)), .val (.int (0 : Int32)), .unset, .unset] [(.int (0 : Int32))]))
  refine Go.s (fun kz => XS.iconst X0.here hx rfl (hb hby own_d8_20) kz) ?_
  show Go p.tables e below P (s₁.setTop (mkF m 21 #[.val (.ref b), .val (.int (0 : Int32)), .val (.int (1 : Int32)), .val (.int key), .val (.int (0 : Int32)), .val (.int (0 : Int32)), .unset, .unset] [(.int (1 : Int32)), (.int (0 : Int32))]))
  refine Go.s (fun kz => XT.iushr X0.here hx rfl (hb hby own_d8_21) rfl kz) ?_
  show Go p.tables e below P (s₁.setTop (mkF m 22 #[.val (.ref b), .val (.int (0 : Int32)), .val (.int (1 : Int32)), .val (.int key), .val (.int (0 : Int32)), .val (.int (0 : Int32)), .unset, .unset] [(.int (XT.ushr (0 : Int32) (1 : Int32)))]))
  rw [show (XT.ushr (0 : Int32) (1 : Int32)) = (0 : Int32) from by decide]
  show Go p.tables e below P (s₁.setTop (mkF m 22 #[.val (.ref b), .val (.int (0 : Int32)), .val (.int (1 : Int32)), .val (.int key), .val (.int (0 : Int32)), .val (.int (0 : Int32)), .unset, .unset] [(.int (0 : Int32))]))
  refine Go.s (fun kz => XS.istore X0.here hx rfl (hb hby own_d8_22) rfl (l' := #[.val (.ref b), .val (.int (0 : Int32)), .val (.int (1 : Int32)), .val (.int key), .val (.int (0 : Int32)), .val (.int (0 : Int32)), .val (.int (0 : Int32)), .unset]) rfl kz) ?_
  show Go p.tables e below P (s₁.setTop (mkF m 24 #[.val (.ref b), .val (.int (0 : Int32)), .val (.int (1 : Int32)), .val (.int key), .val (.int (0 : Int32)), .val (.int (0 : Int32)), .val (.int (0 : Int32)), .unset] []))
  refine Go.s (fun kz => XS.aloadN X0.here hx rfl (hb hby own_d8_24) rfl rfl kz) ?_
  show Go p.tables e below P (s₁.setTop (mkF m 25 #[.val (.ref b), .val (.int (0 : Int32)), .val (.int (1 : Int32)), .val (.int key), .val (.int (0 : Int32)), .val (.int (0 : Int32)), .val (.int (0 : Int32)), .unset] [(.ref b)]))
  refine Go.s (fun kz => XS.iload X0.here hx rfl (hb hby own_d8_25) rfl kz) ?_
  show Go p.tables e below P (s₁.setTop (mkF m 27 #[.val (.ref b), .val (.int (0 : Int32)), .val (.int (1 : Int32)), .val (.int key), .val (.int (0 : Int32)), .val (.int (0 : Int32)), .val (.int (0 : Int32)), .unset] [(.int (0 : Int32)), (.ref b)]))
  obtain ⟨cl1, Ar1, q1, Sz1, Ng1, Ha1, Ft1⟩ := id V_b
  have hin1 := inb_of (j := (0 : Int32)) Sz1 ⟨by decide, by decide⟩
  have hat1 := Has.at Ha1 hin1 (v := (.int s0)) rfl
  refine Go.s (fun {t} kz => X0.iaload hx (j := (0 : Int32)) (v := (.int s0)) (by rw [e0]; exact Ar1.1) (State.isArrayOf_alike hZ.alike Ar1.2.1) Ar1.2.2 hin1 hat1 (g := (mkF m 27 #[.val (.ref b), .val (.int (0 : Int32)), .val (.int (1 : Int32)), .val (.int key), .val (.int (0 : Int32)), .val (.int (0 : Int32)), .val (.int (0 : Int32)), .unset] [(.int (0 : Int32)), (.ref b)])) rfl rfl (hb hby own_d8_27) _ kz) ?_
  show Go p.tables e below P (s₁.setTop (mkF m 28 #[.val (.ref b), .val (.int (0 : Int32)), .val (.int (1 : Int32)), .val (.int key), .val (.int (0 : Int32)), .val (.int (0 : Int32)), .val (.int (0 : Int32)), .unset] [(.int s0)]))
  refine Go.s (fun kz => XS.istore X0.here hx rfl (hb hby own_d8_28) rfl (l' := #[.val (.ref b), .val (.int (0 : Int32)), .val (.int (1 : Int32)), .val (.int key), .val (.int (0 : Int32)), .val (.int (0 : Int32)), .val (.int (0 : Int32)), .val (.int s0)]) rfl kz) ?_
  show Go p.tables e below P (s₁.setTop (mkF m 30 #[.val (.ref b), .val (.int (0 : Int32)), .val (.int (1 : Int32)), .val (.int key), .val (.int (0 : Int32)), .val (.int (0 : Int32)), .val (.int (0 : Int32)), .val (.int s0)] []))
  refine Go.s (fun kz => XS.iload X0.here hx rfl (hb hby own_d8_30) rfl kz) ?_
  show Go p.tables e below P (s₁.setTop (mkF m 32 #[.val (.ref b), .val (.int (0 : Int32)), .val (.int (1 : Int32)), .val (.int key), .val (.int (0 : Int32)), .val (.int (0 : Int32)), .val (.int (0 : Int32)), .val (.int s0)] [(.int s0)]))
  refine Go.s (fun kz => XS.iloadN X0.here hx rfl (hb hby own_d8_32) rfl kz) ?_
  show Go p.tables e below P (s₁.setTop (mkF m 33 #[.val (.ref b), .val (.int (0 : Int32)), .val (.int (1 : Int32)), .val (.int key), .val (.int (0 : Int32)), .val (.int (0 : Int32)), .val (.int (0 : Int32)), .val (.int s0)] [(.int key), (.int s0)]))
  by_cases hc33 : s0 < key
  · skip
    refine Go.s (fun kz => XS.icmpNo X0.here hx rfl (hb hby own_d8_33) rfl (XT.ii_ge_f hc33) kz) ?_
    show Go p.tables e below P (s₁.setTop (mkF m 36 #[.val (.ref b), .val (.int (0 : Int32)), .val (.int (1 : Int32)), .val (.int key), .val (.int (0 : Int32)), .val (.int (0 : Int32)), .val (.int (0 : Int32)), .val (.int s0)] []))
    refine Go.s (fun kz => XS.iload X0.here hx rfl (hb hby own_d8_36) rfl kz) ?_
    show Go p.tables e below P (s₁.setTop (mkF m 38 #[.val (.ref b), .val (.int (0 : Int32)), .val (.int (1 : Int32)), .val (.int key), .val (.int (0 : Int32)), .val (.int (0 : Int32)), .val (.int (0 : Int32)), .val (.int s0)] [(.int (0 : Int32))]))
    refine Go.s (fun kz => XS.iconst X0.here hx rfl (hb hby own_d8_38) kz) ?_
    show Go p.tables e below P (s₁.setTop (mkF m 39 #[.val (.ref b), .val (.int (0 : Int32)), .val (.int (1 : Int32)), .val (.int key), .val (.int (0 : Int32)), .val (.int (0 : Int32)), .val (.int (0 : Int32)), .val (.int s0)] [(.int (1 : Int32)), (.int (0 : Int32))]))
    refine Go.s (fun kz => XS.iadd X0.here hx rfl (hb hby own_d8_39) rfl kz) ?_
    show Go p.tables e below P (s₁.setTop (mkF m 40 #[.val (.ref b), .val (.int (0 : Int32)), .val (.int (1 : Int32)), .val (.int key), .val (.int (0 : Int32)), .val (.int (0 : Int32)), .val (.int (0 : Int32)), .val (.int s0)] [(.int ((0 : Int32) + (1 : Int32)))]))
    rw [show ((0 : Int32) + (1 : Int32)) = (1 : Int32) from by decide]
    show Go p.tables e below P (s₁.setTop (mkF m 40 #[.val (.ref b), .val (.int (0 : Int32)), .val (.int (1 : Int32)), .val (.int key), .val (.int (0 : Int32)), .val (.int (0 : Int32)), .val (.int (0 : Int32)), .val (.int s0)] [(.int (1 : Int32))]))
    refine Go.s (fun kz => XS.istore X0.here hx rfl (hb hby own_d8_40) rfl (l' := #[.val (.ref b), .val (.int (0 : Int32)), .val (.int (1 : Int32)), .val (.int key), .val (.int (1 : Int32)), .val (.int (0 : Int32)), .val (.int (0 : Int32)), .val (.int s0)]) rfl kz) ?_
    show Go p.tables e below P (s₁.setTop (mkF m 42 #[.val (.ref b), .val (.int (0 : Int32)), .val (.int (1 : Int32)), .val (.int key), .val (.int (1 : Int32)), .val (.int (0 : Int32)), .val (.int (0 : Int32)), .val (.int s0)] []))
    refine Go.s (fun kz => XS.goto X0.here hx rfl (pc0 := 42) (pc' := 63) rfl (hb hby own_d8_42) (by decide) (by decide) kz) ?_
    show Go p.tables e below P (s₁.setTop (mkF m 63 #[.val (.ref b), .val (.int (0 : Int32)), .val (.int (1 : Int32)), .val (.int key), .val (.int (1 : Int32)), .val (.int (0 : Int32)), .val (.int (0 : Int32)), .val (.int s0)] []))
    refine Go.s (fun kz => XS.goto X0.here hx rfl (pc0 := 63) (pc' := 8) rfl (hb hby own_d8_63) (by decide) (by decide) kz) ?_
    show Go p.tables e below P (s₁.setTop (mkF m 8 #[.val (.ref b), .val (.int (0 : Int32)), .val (.int (1 : Int32)), .val (.int key), .val (.int (1 : Int32)), .val (.int (0 : Int32)), .val (.int (0 : Int32)), .val (.int s0)] []))
    refine Go.s (fun kz => XS.iload X0.here hx rfl (hb hby own_d8_8) rfl kz) ?_
    show Go p.tables e below P (s₁.setTop (mkF m 10 #[.val (.ref b), .val (.int (0 : Int32)), .val (.int (1 : Int32)), .val (.int key), .val (.int (1 : Int32)), .val (.int (0 : Int32)), .val (.int (0 : Int32)), .val (.int s0)] [(.int (1 : Int32))]))
    refine Go.s (fun kz => XS.iload X0.here hx rfl (hb hby own_d8_10) rfl kz) ?_
    show Go p.tables e below P (s₁.setTop (mkF m 12 #[.val (.ref b), .val (.int (0 : Int32)), .val (.int (1 : Int32)), .val (.int key), .val (.int (1 : Int32)), .val (.int (0 : Int32)), .val (.int (0 : Int32)), .val (.int s0)] [(.int (0 : Int32)), (.int (1 : Int32))]))
    refine Go.s (fun kz => XS.icmpYes X0.here hx rfl (pc0 := 12) (pc' := 66) rfl (hb hby own_d8_12) rfl (XT.ii_gt_t (by decide)) (by decide) (by decide) kz) ?_
    show Go p.tables e below P (s₁.setTop (mkF m 66 #[.val (.ref b), .val (.int (0 : Int32)), .val (.int (1 : Int32)), .val (.int key), .val (.int (1 : Int32)), .val (.int (0 : Int32)), .val (.int (0 : Int32)), .val (.int s0)] []))
    refine Go.s (fun kz => XS.iload X0.here hx rfl (hb hby own_d8_66) rfl kz) ?_
    show Go p.tables e below P (s₁.setTop (mkF m 68 #[.val (.ref b), .val (.int (0 : Int32)), .val (.int (1 : Int32)), .val (.int key), .val (.int (1 : Int32)), .val (.int (0 : Int32)), .val (.int (0 : Int32)), .val (.int s0)] [(.int (1 : Int32))]))
    refine Go.s (fun kz => XS.iconst X0.here hx rfl (hb hby own_d8_68) kz) ?_
    show Go p.tables e below P (s₁.setTop (mkF m 69 #[.val (.ref b), .val (.int (0 : Int32)), .val (.int (1 : Int32)), .val (.int key), .val (.int (1 : Int32)), .val (.int (0 : Int32)), .val (.int (0 : Int32)), .val (.int s0)] [(.int (1 : Int32)), (.int (1 : Int32))]))
    refine Go.s (fun kz => XS.iadd X0.here hx rfl (hb hby own_d8_69) rfl kz) ?_
    show Go p.tables e below P (s₁.setTop (mkF m 70 #[.val (.ref b), .val (.int (0 : Int32)), .val (.int (1 : Int32)), .val (.int key), .val (.int (1 : Int32)), .val (.int (0 : Int32)), .val (.int (0 : Int32)), .val (.int s0)] [(.int ((1 : Int32) + (1 : Int32)))]))
    rw [show ((1 : Int32) + (1 : Int32)) = (2 : Int32) from by decide]
    show Go p.tables e below P (s₁.setTop (mkF m 70 #[.val (.ref b), .val (.int (0 : Int32)), .val (.int (1 : Int32)), .val (.int key), .val (.int (1 : Int32)), .val (.int (0 : Int32)), .val (.int (0 : Int32)), .val (.int s0)] [(.int (2 : Int32))]))
    refine Go.s (fun kz => XS.ineg X0.here hx rfl (hb hby own_d8_70) rfl kz) ?_
    show Go p.tables e below P (s₁.setTop (mkF m 71 #[.val (.ref b), .val (.int (0 : Int32)), .val (.int (1 : Int32)), .val (.int key), .val (.int (1 : Int32)), .val (.int (0 : Int32)), .val (.int (0 : Int32)), .val (.int s0)] [(.int (-(2 : Int32)))]))
    rw [show (-(2 : Int32)) = (-2 : Int32) from by decide]
    show Go p.tables e below P (s₁.setTop (mkF m 71 #[.val (.ref b), .val (.int (0 : Int32)), .val (.int (1 : Int32)), .val (.int key), .val (.int (1 : Int32)), .val (.int (0 : Int32)), .val (.int (0 : Int32)), .val (.int s0)] [(.int (-2 : Int32))]))
    exact Go.retI X0 hx hlk hret (hb hby own_d8_71) (fun U hU hF => hP U _ _ (by rw [hU, e0]; exact ⟨(Or.inl (⟨rfl, hc33⟩)), N0, rfl⟩) ⟨hF.1, hF.2.1, hF.2.2.mono (by decide) (by decide)⟩)
  · skip
    refine Go.s (fun kz => XS.icmpYes X0.here hx rfl (pc0 := 33) (pc' := 45) rfl (hb hby own_d8_33) rfl (XT.ii_ge_t hc33) (by decide) (by decide) kz) ?_
    show Go p.tables e below P (s₁.setTop (mkF m 45 #[.val (.ref b), .val (.int (0 : Int32)), .val (.int (1 : Int32)), .val (.int key), .val (.int (0 : Int32)), .val (.int (0 : Int32)), .val (.int (0 : Int32)), .val (.int s0)] []))
    refine Go.s (fun kz => XS.iload X0.here hx rfl (hb hby own_d8_45) rfl kz) ?_
    show Go p.tables e below P (s₁.setTop (mkF m 47 #[.val (.ref b), .val (.int (0 : Int32)), .val (.int (1 : Int32)), .val (.int key), .val (.int (0 : Int32)), .val (.int (0 : Int32)), .val (.int (0 : Int32)), .val (.int s0)] [(.int s0)]))
    refine Go.s (fun kz => XS.iloadN X0.here hx rfl (hb hby own_d8_47) rfl kz) ?_
    show Go p.tables e below P (s₁.setTop (mkF m 48 #[.val (.ref b), .val (.int (0 : Int32)), .val (.int (1 : Int32)), .val (.int key), .val (.int (0 : Int32)), .val (.int (0 : Int32)), .val (.int (0 : Int32)), .val (.int s0)] [(.int key), (.int s0)]))
    by_cases hc48 : key < s0
    · skip
      refine Go.s (fun kz => XS.icmpNo X0.here hx rfl (hb hby own_d8_48) rfl (XT.ii_le_f hc48) kz) ?_
      show Go p.tables e below P (s₁.setTop (mkF m 51 #[.val (.ref b), .val (.int (0 : Int32)), .val (.int (1 : Int32)), .val (.int key), .val (.int (0 : Int32)), .val (.int (0 : Int32)), .val (.int (0 : Int32)), .val (.int s0)] []))
      refine Go.s (fun kz => XS.iload X0.here hx rfl (hb hby own_d8_51) rfl kz) ?_
      show Go p.tables e below P (s₁.setTop (mkF m 53 #[.val (.ref b), .val (.int (0 : Int32)), .val (.int (1 : Int32)), .val (.int key), .val (.int (0 : Int32)), .val (.int (0 : Int32)), .val (.int (0 : Int32)), .val (.int s0)] [(.int (0 : Int32))]))
      refine Go.s (fun kz => XS.iconst X0.here hx rfl (hb hby own_d8_53) kz) ?_
      show Go p.tables e below P (s₁.setTop (mkF m 54 #[.val (.ref b), .val (.int (0 : Int32)), .val (.int (1 : Int32)), .val (.int key), .val (.int (0 : Int32)), .val (.int (0 : Int32)), .val (.int (0 : Int32)), .val (.int s0)] [(.int (1 : Int32)), (.int (0 : Int32))]))
      refine Go.s (fun kz => XS.isub X0.here hx rfl (hb hby own_d8_54) rfl kz) ?_
      show Go p.tables e below P (s₁.setTop (mkF m 55 #[.val (.ref b), .val (.int (0 : Int32)), .val (.int (1 : Int32)), .val (.int key), .val (.int (0 : Int32)), .val (.int (0 : Int32)), .val (.int (0 : Int32)), .val (.int s0)] [(.int ((0 : Int32) - (1 : Int32)))]))
      rw [show ((0 : Int32) - (1 : Int32)) = (-1 : Int32) from by decide]
      show Go p.tables e below P (s₁.setTop (mkF m 55 #[.val (.ref b), .val (.int (0 : Int32)), .val (.int (1 : Int32)), .val (.int key), .val (.int (0 : Int32)), .val (.int (0 : Int32)), .val (.int (0 : Int32)), .val (.int s0)] [(.int (-1 : Int32))]))
      refine Go.s (fun kz => XS.istore X0.here hx rfl (hb hby own_d8_55) rfl (l' := #[.val (.ref b), .val (.int (0 : Int32)), .val (.int (1 : Int32)), .val (.int key), .val (.int (0 : Int32)), .val (.int (-1 : Int32)), .val (.int (0 : Int32)), .val (.int s0)]) rfl kz) ?_
      show Go p.tables e below P (s₁.setTop (mkF m 57 #[.val (.ref b), .val (.int (0 : Int32)), .val (.int (1 : Int32)), .val (.int key), .val (.int (0 : Int32)), .val (.int (-1 : Int32)), .val (.int (0 : Int32)), .val (.int s0)] []))
      refine Go.s (fun kz => XS.goto X0.here hx rfl (pc0 := 57) (pc' := 63) rfl (hb hby own_d8_57) (by decide) (by decide) kz) ?_
      show Go p.tables e below P (s₁.setTop (mkF m 63 #[.val (.ref b), .val (.int (0 : Int32)), .val (.int (1 : Int32)), .val (.int key), .val (.int (0 : Int32)), .val (.int (-1 : Int32)), .val (.int (0 : Int32)), .val (.int s0)] []))
      refine Go.s (fun kz => XS.goto X0.here hx rfl (pc0 := 63) (pc' := 8) rfl (hb hby own_d8_63) (by decide) (by decide) kz) ?_
      show Go p.tables e below P (s₁.setTop (mkF m 8 #[.val (.ref b), .val (.int (0 : Int32)), .val (.int (1 : Int32)), .val (.int key), .val (.int (0 : Int32)), .val (.int (-1 : Int32)), .val (.int (0 : Int32)), .val (.int s0)] []))
      refine Go.s (fun kz => XS.iload X0.here hx rfl (hb hby own_d8_8) rfl kz) ?_
      show Go p.tables e below P (s₁.setTop (mkF m 10 #[.val (.ref b), .val (.int (0 : Int32)), .val (.int (1 : Int32)), .val (.int key), .val (.int (0 : Int32)), .val (.int (-1 : Int32)), .val (.int (0 : Int32)), .val (.int s0)] [(.int (0 : Int32))]))
      refine Go.s (fun kz => XS.iload X0.here hx rfl (hb hby own_d8_10) rfl kz) ?_
      show Go p.tables e below P (s₁.setTop (mkF m 12 #[.val (.ref b), .val (.int (0 : Int32)), .val (.int (1 : Int32)), .val (.int key), .val (.int (0 : Int32)), .val (.int (-1 : Int32)), .val (.int (0 : Int32)), .val (.int s0)] [(.int (-1 : Int32)), (.int (0 : Int32))]))
      refine Go.s (fun kz => XS.icmpYes X0.here hx rfl (pc0 := 12) (pc' := 66) rfl (hb hby own_d8_12) rfl (XT.ii_gt_t (by decide)) (by decide) (by decide) kz) ?_
      show Go p.tables e below P (s₁.setTop (mkF m 66 #[.val (.ref b), .val (.int (0 : Int32)), .val (.int (1 : Int32)), .val (.int key), .val (.int (0 : Int32)), .val (.int (-1 : Int32)), .val (.int (0 : Int32)), .val (.int s0)] []))
      refine Go.s (fun kz => XS.iload X0.here hx rfl (hb hby own_d8_66) rfl kz) ?_
      show Go p.tables e below P (s₁.setTop (mkF m 68 #[.val (.ref b), .val (.int (0 : Int32)), .val (.int (1 : Int32)), .val (.int key), .val (.int (0 : Int32)), .val (.int (-1 : Int32)), .val (.int (0 : Int32)), .val (.int s0)] [(.int (0 : Int32))]))
      refine Go.s (fun kz => XS.iconst X0.here hx rfl (hb hby own_d8_68) kz) ?_
      show Go p.tables e below P (s₁.setTop (mkF m 69 #[.val (.ref b), .val (.int (0 : Int32)), .val (.int (1 : Int32)), .val (.int key), .val (.int (0 : Int32)), .val (.int (-1 : Int32)), .val (.int (0 : Int32)), .val (.int s0)] [(.int (1 : Int32)), (.int (0 : Int32))]))
      refine Go.s (fun kz => XS.iadd X0.here hx rfl (hb hby own_d8_69) rfl kz) ?_
      show Go p.tables e below P (s₁.setTop (mkF m 70 #[.val (.ref b), .val (.int (0 : Int32)), .val (.int (1 : Int32)), .val (.int key), .val (.int (0 : Int32)), .val (.int (-1 : Int32)), .val (.int (0 : Int32)), .val (.int s0)] [(.int ((0 : Int32) + (1 : Int32)))]))
      rw [show ((0 : Int32) + (1 : Int32)) = (1 : Int32) from by decide]
      show Go p.tables e below P (s₁.setTop (mkF m 70 #[.val (.ref b), .val (.int (0 : Int32)), .val (.int (1 : Int32)), .val (.int key), .val (.int (0 : Int32)), .val (.int (-1 : Int32)), .val (.int (0 : Int32)), .val (.int s0)] [(.int (1 : Int32))]))
      refine Go.s (fun kz => XS.ineg X0.here hx rfl (hb hby own_d8_70) rfl kz) ?_
      show Go p.tables e below P (s₁.setTop (mkF m 71 #[.val (.ref b), .val (.int (0 : Int32)), .val (.int (1 : Int32)), .val (.int key), .val (.int (0 : Int32)), .val (.int (-1 : Int32)), .val (.int (0 : Int32)), .val (.int s0)] [(.int (-(1 : Int32)))]))
      rw [show (-(1 : Int32)) = (-1 : Int32) from by decide]
      show Go p.tables e below P (s₁.setTop (mkF m 71 #[.val (.ref b), .val (.int (0 : Int32)), .val (.int (1 : Int32)), .val (.int key), .val (.int (0 : Int32)), .val (.int (-1 : Int32)), .val (.int (0 : Int32)), .val (.int s0)] [(.int (-1 : Int32))]))
      exact Go.retI X0 hx hlk hret (hb hby own_d8_71) (fun U hU hF => hP U _ _ (by rw [hU, e0]; exact ⟨(Or.inr (Or.inl (⟨rfl, hc33, hc48⟩))), N0, rfl⟩) ⟨hF.1, hF.2.1, hF.2.2.mono (by decide) (by decide)⟩)
    · skip
      refine Go.s (fun kz => XS.icmpYes X0.here hx rfl (pc0 := 48) (pc' := 60) rfl (hb hby own_d8_48) rfl (XT.ii_le_t hc48) (by decide) (by decide) kz) ?_
      show Go p.tables e below P (s₁.setTop (mkF m 60 #[.val (.ref b), .val (.int (0 : Int32)), .val (.int (1 : Int32)), .val (.int key), .val (.int (0 : Int32)), .val (.int (0 : Int32)), .val (.int (0 : Int32)), .val (.int s0)] []))
      refine Go.s (fun kz => XS.iload X0.here hx rfl (hb hby own_d8_60) rfl kz) ?_
      show Go p.tables e below P (s₁.setTop (mkF m 62 #[.val (.ref b), .val (.int (0 : Int32)), .val (.int (1 : Int32)), .val (.int key), .val (.int (0 : Int32)), .val (.int (0 : Int32)), .val (.int (0 : Int32)), .val (.int s0)] [(.int (0 : Int32))]))
      exact Go.retI X0 hx hlk hret (hb hby own_d8_62) (fun U hU hF => hP U _ _ (by rw [hU, e0]; exact ⟨(Or.inr (Or.inr (⟨rfl, hc33, hc48⟩))), N0, rfl⟩) ⟨hF.1, hF.2.1, hF.2.2.mono (by decide) (by decide)⟩)
theorem own_ef7_1 (m : MethodId) (b : Addr) (key : Int32) : entryFrame m #[(.ref b), (.int key)] 2 = mkF m 0 #[.val (.ref b), .val (.int key)] [] := by
  (first | (simp [entryFrame, mkF, argsToLocals, Value.category]; done) | rfl)
theorem own_d7_0 : decode jdk_65_method_57_code 0 = .ok (.aload_n 0, 1) := by decide +kernel
theorem own_d7_1 : decode jdk_65_method_57_code 1 = .ok (.iconst 0, 1) := by decide +kernel
theorem own_d7_2 : decode jdk_65_method_57_code 2 = .ok (.aload_n 0, 1) := by decide +kernel
theorem own_d7_3 : decode jdk_65_method_57_code 3 = .ok (.arraylength, 1) := by decide +kernel
theorem own_d7_4 : decode jdk_65_method_57_code 4 = .ok (.iload_n 1, 1) := by decide +kernel
theorem own_pd_0 : parseMethodDescriptor "([IIII)I" = some ⟨[(.array .int), .int, .int, .int], some .int⟩ := by decide +kernel
theorem own_d7_5 : decode jdk_65_method_57_code 5 = .ok (.invokestatic 209, 3) := by decide +kernel
theorem own_d7_8 : decode jdk_65_method_57_code 8 = .ok (.ireturn, 1) := by decide +kernel
set_option maxRecDepth 65536 in
set_option maxHeartbeats 40000000 in
theorem own_rm7_1 (l : Launch) (Z : State) (a0 : Array Value) (hw : ∀ d ∈ tables_1, d.before a0 Z = true) (ws : List Jvm.Cond) (b kk : Nat) (key s0 : Int32) (h0 : Heap) (n0 : Nat) (Z0 : n0 ≤ h0.size) (V_b : Arv Z h0 b kk .int 1 [.int s0] (.int (0 : Int32))) :
    Con l Z (⟨"java/util/Arrays", "binarySearch", "([II)I"⟩ : MethodName) jdk_65_method_57_code 2 (some .int) ws ({ frames := 1, cells := 0, slots := 0, locals := 19 } : Room) #[(.ref b), (.int key)] h0 (fun v h L => ((v = some (.int (-2 : Int32)) ∧ s0 < key) ∨ (v = some (.int (-1 : Int32)) ∧ ¬ s0 < key ∧ key < s0) ∨ (v = some (.int (0 : Int32)) ∧ ¬ s0 < key ∧ ¬ key < s0)) ∧ Fr n0 L ∧ h = h0) := by
  refine Con.intro (plainFor_of_name own_pn_1) ?_
  intro p e s m below meth c s₁ P hx hby hml hown hnm hret hlk hZ X0 e0 hP
  have N0 := Fr.nil n0
  have hown : s.vm.findClass "java/util/Arrays" = some m.cls := hown
  refine Go.cast (own_ef7_1 m b key) ?_
  show Go p.tables e below P (s₁.setTop (mkF m 0 #[.val (.ref b), .val (.int key)] []))
  refine Go.s (fun kz => XS.aloadN X0.here hx rfl (hb hby own_d7_0) rfl rfl kz) ?_
  show Go p.tables e below P (s₁.setTop (mkF m 1 #[.val (.ref b), .val (.int key)] [(.ref b)]))
  refine Go.s (fun kz => XS.iconst X0.here hx rfl (hb hby own_d7_1) kz) ?_
  show Go p.tables e below P (s₁.setTop (mkF m 2 #[.val (.ref b), .val (.int key)] [(.int (0 : Int32)), (.ref b)]))
  refine Go.s (fun kz => XS.aloadN X0.here hx rfl (hb hby own_d7_2) rfl rfl kz) ?_
  show Go p.tables e below P (s₁.setTop (mkF m 3 #[.val (.ref b), .val (.int key)] [(.ref b), (.int (0 : Int32)), (.ref b)]))
  obtain ⟨cl1, Ar1, q1, Sz1, Ng1, Ha1, Ft1⟩ := id V_b
  refine Go.s (fun {t} kz => X0.arraylength hx (by rw [e0]; exact Ar1.1) (State.isArrayOf_alike hZ.alike Ar1.2.1) (g := (mkF m 3 #[.val (.ref b), .val (.int key)] [(.ref b), (.int (0 : Int32)), (.ref b)])) rfl rfl (hb hby own_d7_3) _ kz) ?_
  rw [len_of Sz1 Ng1]
  show Go p.tables e below P (s₁.setTop (mkF m 4 #[.val (.ref b), .val (.int key)] [(.int (1 : Int32)), (.int (0 : Int32)), (.ref b)]))
  refine Go.s (fun kz => XS.iloadN X0.here hx rfl (hb hby own_d7_4) rfl kz) ?_
  show Go p.tables e below P (s₁.setTop (mkF m 5 #[.val (.ref b), .val (.int key)] [(.int key), (.int (1 : Int32)), (.int (0 : Int32)), (.ref b)]))
  obtain ⟨v2, T2, L2, X2, Q2, st2⟩ := Con.static (own_rm8_1 l Z a0 hw [] b kk key s0 h0 n0 Z0 V_b) X0 hx hZ (W := 0) hown (hw _ (List.mem_of_getElem? (i := 35) rfl)) (hw _ (List.mem_of_getElem? (i := 36) rfl)) (hw _ (List.mem_of_getElem? (i := 33) rfl)) (hw _ (List.mem_of_getElem? (i := 37) rfl)) (by decide) (by decide) (by decide) (by decide) (by decide) e0 (g := (mkF m 5 #[.val (.ref b), .val (.int key)] [(.int key), (.int (1 : Int32)), (.int (0 : Int32)), (.ref b)])) rfl (by rw [hml]; rfl) (argsL := [(.ref b), (.int (0 : Int32)), (.int (1 : Int32)), (.int key)]) (rest := []) rfl (lenOf own_pd_0 rfl) rfl (by show 2 * 0 + _ ≤ _; exact Nat.le_of_eq rfl) (hb hby own_d7_5)
  obtain ⟨hd2, Nq2, e2⟩ := Q2
  have N2 := Fr.app N0 Nq2
  rcases hd2 with ⟨rfl, k0⟩ | ⟨rfl, k0, k1⟩ | ⟨rfl, k0, k1⟩
  · skip
    refine Go.s (fun {t} => st2) ?_
    show Go p.tables e below P (T2.setTop (mkF m 8 #[.val (.ref b), .val (.int key)] [(.int (-2 : Int32))]))
    exact Go.retI X2 hx hlk hret (hb hby own_d7_8) (fun U hU hF => hP U _ _ (by rw [hU, e2]; exact ⟨(Or.inl (⟨rfl, k0⟩)), N2, rfl⟩) ⟨hF.1, hF.2.1, hF.2.2.mono (by decide) (by decide)⟩)
  · skip
    refine Go.s (fun {t} => st2) ?_
    show Go p.tables e below P (T2.setTop (mkF m 8 #[.val (.ref b), .val (.int key)] [(.int (-1 : Int32))]))
    exact Go.retI X2 hx hlk hret (hb hby own_d7_8) (fun U hU hF => hP U _ _ (by rw [hU, e2]; exact ⟨(Or.inr (Or.inl (⟨rfl, k0, k1⟩))), N2, rfl⟩) ⟨hF.1, hF.2.1, hF.2.2.mono (by decide) (by decide)⟩)
  · skip
    refine Go.s (fun {t} => st2) ?_
    show Go p.tables e below P (T2.setTop (mkF m 8 #[.val (.ref b), .val (.int key)] [(.int (0 : Int32))]))
    exact Go.retI X2 hx hlk hret (hb hby own_d7_8) (fun U hU hF => hP U _ _ (by rw [hU, e2]; exact ⟨(Or.inr (Or.inr (⟨rfl, k0, k1⟩))), N2, rfl⟩) ⟨hF.1, hF.2.1, hF.2.2.mono (by decide) (by decide)⟩)
theorem own_ef6_1 (m : MethodId) (a : Addr) (x : Int64) : entryFrame m #[(.ref a), (.long x)] 4 = mkF m 0 #[.val (.ref a), .val (.long x), .second, .unset] [] := by
  (first | (simp [entryFrame, mkF, argsToLocals, Value.category]; done) | rfl)
theorem own_d6_0 : decode prog_13_method_5_code 0 = .ok (.aload_n 0, 1) := by decide +kernel
theorem own_d6_1 : decode prog_13_method_5_code 1 = .ok (.getfield 7, 3) := by decide +kernel
theorem own_d6_4 : decode prog_13_method_5_code 4 = .ok (.lload_n 1, 1) := by decide +kernel
theorem own_d6_5 : decode prog_13_method_5_code 5 = .ok (.l2i, 1) := by decide +kernel
theorem own_pd_1 : parseMethodDescriptor "([II)I" = some ⟨[(.array .int), .int], some .int⟩ := by decide +kernel
theorem own_d6_6 : decode prog_13_method_5_code 6 = .ok (.invokestatic 32, 3) := by decide +kernel
theorem own_d6_9 : decode prog_13_method_5_code 9 = .ok (.istore_n 3, 1) := by decide +kernel
theorem own_d6_10 : decode prog_13_method_5_code 10 = .ok (.iload_n 3, 1) := by decide +kernel
theorem own_d6_11 : decode prog_13_method_5_code 11 = .ok (.ifCond .lt 7, 3) := by decide +kernel
theorem own_d6_18 : decode prog_13_method_5_code 18 = .ok (.iload_n 3, 1) := by decide +kernel
theorem own_d6_19 : decode prog_13_method_5_code 19 = .ok (.ineg, 1) := by decide +kernel
theorem own_d6_20 : decode prog_13_method_5_code 20 = .ok (.iconst 1, 1) := by decide +kernel
theorem own_d6_21 : decode prog_13_method_5_code 21 = .ok (.isub, 1) := by decide +kernel
theorem own_d6_22 : decode prog_13_method_5_code 22 = .ok (.ireturn, 1) := by decide +kernel
theorem own_d6_14 : decode prog_13_method_5_code 14 = .ok (.iload_n 3, 1) := by decide +kernel
theorem own_d6_15 : decode prog_13_method_5_code 15 = .ok (.goto 7, 3) := by decide +kernel
set_option maxRecDepth 65536 in
set_option maxHeartbeats 40000000 in
theorem own_rm6_1 (l : Launch) (Z : State) (a0 : Array Value) (hw : ∀ d ∈ tables_1, d.before a0 Z = true) (ws : List Jvm.Cond) (a b kk : Nat) (x : Int64) (s0 : Int32) (h0 : Heap) (n0 : Nat) (Z0 : n0 ≤ h0.size) (V_b : Arv Z h0 b kk .int 1 [.int s0] (.int (0 : Int32))) (F_s : Fld Z h0 a "com/example/tempo_feed/tempofeed/core/DailyPolls" "secondsOfDay" "[I" (.ref b)) :
    Con l Z (⟨"com/example/tempo_feed/tempofeed/core/DailyPolls", "indexAtOrAfter", "(J)I"⟩ : MethodName) prog_13_method_5_code 4 (some .int) ws ({ frames := 2, cells := 0, slots := 0, locals := 32 } : Room) #[(.ref a), (.long x)] h0 (fun v h L => ((v = some (.int (1 : Int32)) ∧ s0 < x.toInt32) ∨ (v = some (.int (0 : Int32)) ∧ ¬ s0 < x.toInt32 ∧ x.toInt32 < s0) ∨ (v = some (.int (0 : Int32)) ∧ ¬ s0 < x.toInt32 ∧ ¬ x.toInt32 < s0)) ∧ Fr n0 L ∧ h = h0) := by
  refine Con.intro (plainFor_of_name own_pn_0) ?_
  intro p e s m below meth c s₁ P hx hby hml hown hnm hret hlk hZ X0 e0 hP
  have N0 := Fr.nil n0
  have hown : s.vm.findClass "com/example/tempo_feed/tempofeed/core/DailyPolls" = some m.cls := hown
  refine Go.cast (own_ef6_1 m a x) ?_
  show Go p.tables e below P (s₁.setTop (mkF m 0 #[.val (.ref a), .val (.long x), .second, .unset] []))
  refine Go.s (fun kz => XS.aloadN X0.here hx rfl (hb hby own_d6_0) rfl rfl kz) ?_
  show Go p.tables e below P (s₁.setTop (mkF m 1 #[.val (.ref a), .val (.long x), .second, .unset] [(.ref a)]))
  obtain ⟨T1, X1, e1, st1⟩ := getF X0 hx hZ hown (host := "") (Or.inl (hw _ (List.mem_of_getElem? (i := 12) rfl))) Via.refl e0 F_s (g := (mkF m 1 #[.val (.ref a), .val (.long x), .second, .unset] [(.ref a)])) rfl rfl (hb hby own_d6_1)
  refine Go.s (fun {t} => st1 t) ?_
  show Go p.tables e below P (T1.setTop (mkF m 4 #[.val (.ref a), .val (.long x), .second, .unset] [(.ref b)]))
  refine Go.s (fun kz => XT.lloadN X1.here hx rfl (hb hby own_d6_4) rfl kz) ?_
  show Go p.tables e below P (T1.setTop (mkF m 5 #[.val (.ref a), .val (.long x), .second, .unset] [(.long x), (.ref b)]))
  refine Go.s (fun kz => XT.l2i X1.here hx rfl (hb hby own_d6_5) rfl kz) ?_
  show Go p.tables e below P (T1.setTop (mkF m 6 #[.val (.ref a), .val (.long x), .second, .unset] [(.int x.toInt32), (.ref b)]))
  obtain ⟨v2, T2, L2, X2, Q2, st2⟩ := Con.static (own_rm7_1 l Z a0 hw [] b kk x.toInt32 s0 h0 n0 Z0 V_b) X1 hx hZ (W := 0) hown (hw _ (List.mem_of_getElem? (i := 31) rfl)) (hw _ (List.mem_of_getElem? (i := 32) rfl)) (hw _ (List.mem_of_getElem? (i := 33) rfl)) (hw _ (List.mem_of_getElem? (i := 34) rfl)) (by decide) (by decide) (by decide) (by decide) (by decide) e1 (g := (mkF m 6 #[.val (.ref a), .val (.long x), .second, .unset] [(.int x.toInt32), (.ref b)])) rfl (by rw [hml]; rfl) (argsL := [(.ref b), (.int x.toInt32)]) (rest := []) rfl (lenOf own_pd_1 rfl) rfl (by show 2 * 0 + _ ≤ _; exact Nat.le_of_eq rfl) (hb hby own_d6_6)
  obtain ⟨hd2, Nq2, e2⟩ := Q2
  have N2 := Fr.app N0 Nq2
  rcases hd2 with ⟨rfl, k0⟩ | ⟨rfl, k0, k1⟩ | ⟨rfl, k0, k1⟩
  · skip
    refine Go.s (fun {t} => st2) ?_
    show Go p.tables e below P (T2.setTop (mkF m 9 #[.val (.ref a), .val (.long x), .second, .unset] [(.int (-2 : Int32))]))
    refine Go.s (fun kz => XS.istoreN X2.here hx rfl (hb hby own_d6_9) rfl (l' := #[.val (.ref a), .val (.long x), .second, .val (.int (-2 : Int32))]) rfl kz) ?_
    show Go p.tables e below P (T2.setTop (mkF m 10 #[.val (.ref a), .val (.long x), .second, .val (.int (-2 : Int32))] []))
    refine Go.s (fun kz => XS.iloadN X2.here hx rfl (hb hby own_d6_10) rfl kz) ?_
    show Go p.tables e below P (T2.setTop (mkF m 11 #[.val (.ref a), .val (.long x), .second, .val (.int (-2 : Int32))] [(.int (-2 : Int32))]))
    refine Go.s (fun kz => XS.ifYes X2.here hx rfl (pc0 := 11) (pc' := 18) rfl (hb hby own_d6_11) rfl (XT.i0_lt_t (by decide)) (by decide) (by decide) kz) ?_
    show Go p.tables e below P (T2.setTop (mkF m 18 #[.val (.ref a), .val (.long x), .second, .val (.int (-2 : Int32))] []))
    refine Go.s (fun kz => XS.iloadN X2.here hx rfl (hb hby own_d6_18) rfl kz) ?_
    show Go p.tables e below P (T2.setTop (mkF m 19 #[.val (.ref a), .val (.long x), .second, .val (.int (-2 : Int32))] [(.int (-2 : Int32))]))
    refine Go.s (fun kz => XS.ineg X2.here hx rfl (hb hby own_d6_19) rfl kz) ?_
    show Go p.tables e below P (T2.setTop (mkF m 20 #[.val (.ref a), .val (.long x), .second, .val (.int (-2 : Int32))] [(.int (-(-2 : Int32)))]))
    rw [show (-(-2 : Int32)) = (2 : Int32) from by decide]
    show Go p.tables e below P (T2.setTop (mkF m 20 #[.val (.ref a), .val (.long x), .second, .val (.int (-2 : Int32))] [(.int (2 : Int32))]))
    refine Go.s (fun kz => XS.iconst X2.here hx rfl (hb hby own_d6_20) kz) ?_
    show Go p.tables e below P (T2.setTop (mkF m 21 #[.val (.ref a), .val (.long x), .second, .val (.int (-2 : Int32))] [(.int (1 : Int32)), (.int (2 : Int32))]))
    refine Go.s (fun kz => XS.isub X2.here hx rfl (hb hby own_d6_21) rfl kz) ?_
    show Go p.tables e below P (T2.setTop (mkF m 22 #[.val (.ref a), .val (.long x), .second, .val (.int (-2 : Int32))] [(.int ((2 : Int32) - (1 : Int32)))]))
    rw [show ((2 : Int32) - (1 : Int32)) = (1 : Int32) from by decide]
    show Go p.tables e below P (T2.setTop (mkF m 22 #[.val (.ref a), .val (.long x), .second, .val (.int (-2 : Int32))] [(.int (1 : Int32))]))
    exact Go.retI X2 hx hlk hret (hb hby own_d6_22) (fun U hU hF => hP U _ _ (by rw [hU, e2]; exact ⟨(Or.inl (⟨rfl, k0⟩)), N2, rfl⟩) ⟨hF.1, hF.2.1, hF.2.2.mono (by decide) (by decide)⟩)
  · skip
    refine Go.s (fun {t} => st2) ?_
    show Go p.tables e below P (T2.setTop (mkF m 9 #[.val (.ref a), .val (.long x), .second, .unset] [(.int (-1 : Int32))]))
    refine Go.s (fun kz => XS.istoreN X2.here hx rfl (hb hby own_d6_9) rfl (l' := #[.val (.ref a), .val (.long x), .second, .val (.int (-1 : Int32))]) rfl kz) ?_
    show Go p.tables e below P (T2.setTop (mkF m 10 #[.val (.ref a), .val (.long x), .second, .val (.int (-1 : Int32))] []))
    refine Go.s (fun kz => XS.iloadN X2.here hx rfl (hb hby own_d6_10) rfl kz) ?_
    show Go p.tables e below P (T2.setTop (mkF m 11 #[.val (.ref a), .val (.long x), .second, .val (.int (-1 : Int32))] [(.int (-1 : Int32))]))
    refine Go.s (fun kz => XS.ifYes X2.here hx rfl (pc0 := 11) (pc' := 18) rfl (hb hby own_d6_11) rfl (XT.i0_lt_t (by decide)) (by decide) (by decide) kz) ?_
    show Go p.tables e below P (T2.setTop (mkF m 18 #[.val (.ref a), .val (.long x), .second, .val (.int (-1 : Int32))] []))
    refine Go.s (fun kz => XS.iloadN X2.here hx rfl (hb hby own_d6_18) rfl kz) ?_
    show Go p.tables e below P (T2.setTop (mkF m 19 #[.val (.ref a), .val (.long x), .second, .val (.int (-1 : Int32))] [(.int (-1 : Int32))]))
    refine Go.s (fun kz => XS.ineg X2.here hx rfl (hb hby own_d6_19) rfl kz) ?_
    show Go p.tables e below P (T2.setTop (mkF m 20 #[.val (.ref a), .val (.long x), .second, .val (.int (-1 : Int32))] [(.int (-(-1 : Int32)))]))
    rw [show (-(-1 : Int32)) = (1 : Int32) from by decide]
    show Go p.tables e below P (T2.setTop (mkF m 20 #[.val (.ref a), .val (.long x), .second, .val (.int (-1 : Int32))] [(.int (1 : Int32))]))
    refine Go.s (fun kz => XS.iconst X2.here hx rfl (hb hby own_d6_20) kz) ?_
    show Go p.tables e below P (T2.setTop (mkF m 21 #[.val (.ref a), .val (.long x), .second, .val (.int (-1 : Int32))] [(.int (1 : Int32)), (.int (1 : Int32))]))
    refine Go.s (fun kz => XS.isub X2.here hx rfl (hb hby own_d6_21) rfl kz) ?_
    show Go p.tables e below P (T2.setTop (mkF m 22 #[.val (.ref a), .val (.long x), .second, .val (.int (-1 : Int32))] [(.int ((1 : Int32) - (1 : Int32)))]))
    rw [show ((1 : Int32) - (1 : Int32)) = (0 : Int32) from by decide]
    show Go p.tables e below P (T2.setTop (mkF m 22 #[.val (.ref a), .val (.long x), .second, .val (.int (-1 : Int32))] [(.int (0 : Int32))]))
    exact Go.retI X2 hx hlk hret (hb hby own_d6_22) (fun U hU hF => hP U _ _ (by rw [hU, e2]; exact ⟨(Or.inr (Or.inl (⟨rfl, k0, k1⟩))), N2, rfl⟩) ⟨hF.1, hF.2.1, hF.2.2.mono (by decide) (by decide)⟩)
  · skip
    refine Go.s (fun {t} => st2) ?_
    show Go p.tables e below P (T2.setTop (mkF m 9 #[.val (.ref a), .val (.long x), .second, .unset] [(.int (0 : Int32))]))
    refine Go.s (fun kz => XS.istoreN X2.here hx rfl (hb hby own_d6_9) rfl (l' := #[.val (.ref a), .val (.long x), .second, .val (.int (0 : Int32))]) rfl kz) ?_
    show Go p.tables e below P (T2.setTop (mkF m 10 #[.val (.ref a), .val (.long x), .second, .val (.int (0 : Int32))] []))
    refine Go.s (fun kz => XS.iloadN X2.here hx rfl (hb hby own_d6_10) rfl kz) ?_
    show Go p.tables e below P (T2.setTop (mkF m 11 #[.val (.ref a), .val (.long x), .second, .val (.int (0 : Int32))] [(.int (0 : Int32))]))
    refine Go.s (fun kz => XS.ifNo X2.here hx rfl (hb hby own_d6_11) rfl (XT.i0_lt_f (by decide)) kz) ?_
    show Go p.tables e below P (T2.setTop (mkF m 14 #[.val (.ref a), .val (.long x), .second, .val (.int (0 : Int32))] []))
    refine Go.s (fun kz => XS.iloadN X2.here hx rfl (hb hby own_d6_14) rfl kz) ?_
    show Go p.tables e below P (T2.setTop (mkF m 15 #[.val (.ref a), .val (.long x), .second, .val (.int (0 : Int32))] [(.int (0 : Int32))]))
    refine Go.s (fun kz => XS.goto X2.here hx rfl (pc0 := 15) (pc' := 22) rfl (hb hby own_d6_15) (by decide) (by decide) kz) ?_
    show Go p.tables e below P (T2.setTop (mkF m 22 #[.val (.ref a), .val (.long x), .second, .val (.int (0 : Int32))] [(.int (0 : Int32))]))
    exact Go.retI X2 hx hlk hret (hb hby own_d6_22) (fun U hU hF => hP U _ _ (by rw [hU, e2]; exact ⟨(Or.inr (Or.inr (⟨rfl, k0, k1⟩))), N2, rfl⟩) ⟨hF.1, hF.2.1, hF.2.2.mono (by decide) (by decide)⟩)
theorem own_ef3_1 (m : MethodId) (a : Addr) (tt : Int64) : entryFrame m #[(.ref a), (.long tt)] 8 = mkF m 0 #[.val (.ref a), .val (.long tt), .second, .unset, .unset, .unset, .unset, .unset] [] := by
  (first | (simp [entryFrame, mkF, argsToLocals, Value.category]; done) | rfl)
theorem own_d3_0 : decode prog_13_method_2_code 0 = .ok (.lload_n 1, 1) := by decide +kernel
theorem own_d3_1 : decode prog_13_method_2_code 1 = .ok (.ldc2_w 13, 3) := by decide +kernel
theorem own_pd_2 : parseMethodDescriptor "(JJ)J" = some ⟨[.long, .long], some .long⟩ := by decide +kernel
theorem own_d3_4 : decode prog_13_method_2_code 4 = .ok (.invokestatic 15, 3) := by decide +kernel
theorem own_d3_7 : decode prog_13_method_2_code 7 = .ok (.lstore_n 3, 1) := by decide +kernel
theorem own_d3_8 : decode prog_13_method_2_code 8 = .ok (.aload_n 0, 1) := by decide +kernel
theorem own_d3_9 : decode prog_13_method_2_code 9 = .ok (.lload_n 1, 1) := by decide +kernel
theorem own_d3_10 : decode prog_13_method_2_code 10 = .ok (.ldc2_w 13, 3) := by decide +kernel
theorem own_d3_13 : decode prog_13_method_2_code 13 = .ok (.invokestatic 21, 3) := by decide +kernel
theorem own_pd_3 : parseMethodDescriptor "(J)I" = some ⟨[.long], some .int⟩ := by decide +kernel
theorem own_d3_16 : decode prog_13_method_2_code 16 = .ok (.invokevirtual 24, 3) := by decide +kernel
theorem own_d3_19 : decode prog_13_method_2_code 19 = .ok (.istore 5, 2) := by decide +kernel
theorem own_d3_21 : decode prog_13_method_2_code 21 = .ok (.iload 5, 2) := by decide +kernel
theorem own_d3_23 : decode prog_13_method_2_code 23 = .ok (.aload_n 0, 1) := by decide +kernel
theorem own_d3_24 : decode prog_13_method_2_code 24 = .ok (.getfield 7, 3) := by decide +kernel
theorem own_d3_27 : decode prog_13_method_2_code 27 = .ok (.arraylength, 1) := by decide +kernel
theorem own_d3_28 : decode prog_13_method_2_code 28 = .ok (.if_icmp .ge 22, 3) := by decide +kernel
theorem own_d3_50 : decode prog_13_method_2_code 50 = .ok (.lload_n 3, 1) := by decide +kernel
theorem own_d3_51 : decode prog_13_method_2_code 51 = .ok (.lconst 1, 1) := by decide +kernel
theorem own_d3_52 : decode prog_13_method_2_code 52 = .ok (.ladd, 1) := by decide +kernel
theorem own_d3_53 : decode prog_13_method_2_code 53 = .ok (.ldc2_w 13, 3) := by decide +kernel
theorem own_d3_56 : decode prog_13_method_2_code 56 = .ok (.lmul, 1) := by decide +kernel
theorem own_d3_57 : decode prog_13_method_2_code 57 = .ok (.aload_n 0, 1) := by decide +kernel
theorem own_d3_58 : decode prog_13_method_2_code 58 = .ok (.getfield 7, 3) := by decide +kernel
theorem own_d3_61 : decode prog_13_method_2_code 61 = .ok (.iconst 0, 1) := by decide +kernel
theorem own_d3_62 : decode prog_13_method_2_code 62 = .ok (.iaload, 1) := by decide +kernel
theorem own_d3_63 : decode prog_13_method_2_code 63 = .ok (.i2l, 1) := by decide +kernel
theorem own_d3_64 : decode prog_13_method_2_code 64 = .ok (.ladd, 1) := by decide +kernel
theorem own_d3_65 : decode prog_13_method_2_code 65 = .ok (.lstore 6, 2) := by decide +kernel
theorem own_d3_67 : decode prog_13_method_2_code 67 = .ok (.lload 6, 2) := by decide +kernel
theorem own_d3_69 : decode prog_13_method_2_code 69 = .ok (.lreturn, 1) := by decide +kernel
theorem own_d3_31 : decode prog_13_method_2_code 31 = .ok (.lload_n 3, 1) := by decide +kernel
theorem own_d3_32 : decode prog_13_method_2_code 32 = .ok (.ldc2_w 13, 3) := by decide +kernel
theorem own_d3_35 : decode prog_13_method_2_code 35 = .ok (.lmul, 1) := by decide +kernel
theorem own_d3_36 : decode prog_13_method_2_code 36 = .ok (.aload_n 0, 1) := by decide +kernel
theorem own_d3_37 : decode prog_13_method_2_code 37 = .ok (.getfield 7, 3) := by decide +kernel
theorem own_d3_40 : decode prog_13_method_2_code 40 = .ok (.iload 5, 2) := by decide +kernel
theorem own_d3_42 : decode prog_13_method_2_code 42 = .ok (.iaload, 1) := by decide +kernel
theorem own_d3_43 : decode prog_13_method_2_code 43 = .ok (.i2l, 1) := by decide +kernel
theorem own_d3_44 : decode prog_13_method_2_code 44 = .ok (.ladd, 1) := by decide +kernel
theorem own_d3_45 : decode prog_13_method_2_code 45 = .ok (.lstore 6, 2) := by decide +kernel
theorem own_d3_47 : decode prog_13_method_2_code 47 = .ok (.goto 20, 3) := by decide +kernel
set_option maxRecDepth 65536 in
set_option maxHeartbeats 40000000 in
theorem own_rm3_1 (l : Launch) (Z : State) (a0 : Array Value) (hw : ∀ d ∈ tables_1, d.before a0 Z = true) (ws : List Jvm.Cond) (a b kk : Nat) (tt : Int64) (s0 : Int32) (h0 : Heap) (n0 : Nat) (Z0 : n0 ≤ h0.size) (V_b : Arv Z h0 b kk .int 1 [.int s0] (.int (0 : Int32))) (F_s : Fld Z h0 a "com/example/tempo_feed/tempofeed/core/DailyPolls" "secondsOfDay" "[I" (.ref b)) (E_a : Exa Z h0 a "com/example/tempo_feed/tempofeed/core/DailyPolls") :
    Con l Z (⟨"com/example/tempo_feed/tempofeed/core/DailyPolls", "firstAtOrAfter", "(J)J"⟩ : MethodName) prog_13_method_2_code 8 (some .long) ws ({ frames := 3, cells := 0, slots := 0, locals := 47 } : Room) #[(.ref a), (.long tt)] h0 (fun v h L => ((v = some (.long (((own_f4 tt (86400 : Int64)) + (1 : Int64)) * (86400 : Int64) + s0.toInt64)) ∧ s0 < (own_f5 tt 86400).toInt32) ∨ (v = some (.long ((own_f4 tt (86400 : Int64)) * (86400 : Int64) + s0.toInt64)) ∧ ¬ s0 < (own_f5 tt 86400).toInt32 ∧ (own_f5 tt 86400).toInt32 < s0) ∨ (v = some (.long ((own_f4 tt (86400 : Int64)) * (86400 : Int64) + s0.toInt64)) ∧ ¬ s0 < (own_f5 tt 86400).toInt32 ∧ ¬ (own_f5 tt 86400).toInt32 < s0)) ∧ Fr n0 L ∧ h = h0) := by
  refine Con.intro (plainFor_of_name own_pn_0) ?_
  intro p e s m below meth c s₁ P hx hby hml hown hnm hret hlk hZ X0 e0 hP
  have N0 := Fr.nil n0
  have hown : s.vm.findClass "com/example/tempo_feed/tempofeed/core/DailyPolls" = some m.cls := hown
  refine Go.cast (own_ef3_1 m a tt) ?_
  show Go p.tables e below P (s₁.setTop (mkF m 0 #[.val (.ref a), .val (.long tt), .second, .unset, .unset, .unset, .unset, .unset] []))
  refine Go.s (fun kz => XT.lloadN X0.here hx rfl (hb hby own_d3_0) rfl kz) ?_
  show Go p.tables e below P (s₁.setTop (mkF m 1 #[.val (.ref a), .val (.long tt), .second, .unset, .unset, .unset, .unset, .unset] [(.long tt)]))
  refine Go.s (fun kz => X0.ldc2J hx hown (mvT hZ (hw _ (List.mem_of_getElem? (i := 19) rfl))) rfl (hb hby own_d3_1) kz) ?_
  show Go p.tables e below P (s₁.setTop (mkF m 4 #[.val (.ref a), .val (.long tt), .second, .unset, .unset, .unset, .unset, .unset] [(.long (86400 : Int64)), (.long tt)]))
  obtain ⟨v1, T1, L1, X1, Q1, st1⟩ := Con.static (own_rm4 l Z a0 hw [] tt (86400 : Int64) h0 n0 Z0  (by decide)) X0 hx hZ (W := 0) hown (hw _ (List.mem_of_getElem? (i := 20) rfl)) (hw _ (List.mem_of_getElem? (i := 21) rfl)) (hw _ (List.mem_of_getElem? (i := 22) rfl)) (hw _ (List.mem_of_getElem? (i := 23) rfl)) (by decide) (by decide) (by decide) (by decide) (by decide) e0 (g := (mkF m 4 #[.val (.ref a), .val (.long tt), .second, .unset, .unset, .unset, .unset, .unset] [(.long (86400 : Int64)), (.long tt)])) rfl (by rw [hml]; rfl) (argsL := [(.long tt), (.long (86400 : Int64))]) (rest := []) rfl (lenOf own_pd_2 rfl) rfl (by show 2 * 0 + _ ≤ _; exact Nat.le_of_eq rfl) (hb hby own_d3_4)
  obtain ⟨rfl, Nq1, e1⟩ := Q1
  have N1 := Fr.app N0 Nq1
  refine Go.s (fun {t} => st1) ?_
  show Go p.tables e below P (T1.setTop (mkF m 7 #[.val (.ref a), .val (.long tt), .second, .unset, .unset, .unset, .unset, .unset] [(.long (own_f4 tt (86400 : Int64)))]))
  refine Go.s (fun kz => XT.lstoreN X1.here hx rfl (hb hby own_d3_7) rfl (l' := #[.val (.ref a), .val (.long tt), .second, .val (.long (own_f4 tt (86400 : Int64))), .second, .unset, .unset, .unset]) rfl kz) ?_
  show Go p.tables e below P (T1.setTop (mkF m 8 #[.val (.ref a), .val (.long tt), .second, .val (.long (own_f4 tt (86400 : Int64))), .second, .unset, .unset, .unset] []))
  refine Go.s (fun kz => XS.aloadN X1.here hx rfl (hb hby own_d3_8) rfl rfl kz) ?_
  show Go p.tables e below P (T1.setTop (mkF m 9 #[.val (.ref a), .val (.long tt), .second, .val (.long (own_f4 tt (86400 : Int64))), .second, .unset, .unset, .unset] [(.ref a)]))
  refine Go.s (fun kz => XT.lloadN X1.here hx rfl (hb hby own_d3_9) rfl kz) ?_
  show Go p.tables e below P (T1.setTop (mkF m 10 #[.val (.ref a), .val (.long tt), .second, .val (.long (own_f4 tt (86400 : Int64))), .second, .unset, .unset, .unset] [(.long tt), (.ref a)]))
  refine Go.s (fun kz => X1.ldc2J hx hown (mvT hZ (hw _ (List.mem_of_getElem? (i := 19) rfl))) rfl (hb hby own_d3_10) kz) ?_
  show Go p.tables e below P (T1.setTop (mkF m 13 #[.val (.ref a), .val (.long tt), .second, .val (.long (own_f4 tt (86400 : Int64))), .second, .unset, .unset, .unset] [(.long (86400 : Int64)), (.long tt), (.ref a)]))
  obtain ⟨v2, T2, L2, X2, Q2, st2⟩ := Con.static (own_rm5 l Z a0 hw [] tt (86400 : Int64) h0 n0 Z0  (by decide)) X1 hx hZ (W := 1) hown (hw _ (List.mem_of_getElem? (i := 24) rfl)) (hw _ (List.mem_of_getElem? (i := 25) rfl)) (hw _ (List.mem_of_getElem? (i := 22) rfl)) (hw _ (List.mem_of_getElem? (i := 26) rfl)) (by decide) (by decide) (by decide) (by decide) (by decide) e1 (g := (mkF m 13 #[.val (.ref a), .val (.long tt), .second, .val (.long (own_f4 tt (86400 : Int64))), .second, .unset, .unset, .unset] [(.long (86400 : Int64)), (.long tt), (.ref a)])) rfl (by rw [hml]; rfl) (argsL := [(.long tt), (.long (86400 : Int64))]) (rest := [(.ref a)]) rfl (lenOf own_pd_2 rfl) rfl (by show 2 * 0 + _ ≤ _; exact Nat.le_of_eq rfl) (hb hby own_d3_13)
  obtain ⟨rfl, Nq2, e2⟩ := Q2
  have N2 := Fr.app N1 Nq2
  refine Go.s (fun {t} => st2) ?_
  show Go p.tables e below P (T2.setTop (mkF m 16 #[.val (.ref a), .val (.long tt), .second, .val (.long (own_f4 tt (86400 : Int64))), .second, .unset, .unset, .unset] [(.long (own_f5 tt (86400 : Int64))), (.ref a)]))
  obtain ⟨v3, T3, L3, X3, Q3, st3⟩ := Con.priv (own_rm6_1 l Z a0 hw [] a b kk (own_f5 tt (86400 : Int64)) s0 h0 n0 Z0 V_b F_s) X2 hx hZ (W := 0) hown (hw _ (List.mem_of_getElem? (i := 27) rfl)) (hw _ (List.mem_of_getElem? (i := 4) rfl)) (hw _ (List.mem_of_getElem? (i := 29) rfl)) (hw _ (List.mem_of_getElem? (i := 28) rfl)) (hw _ (List.mem_of_getElem? (i := 5) rfl)) (hw _ (List.mem_of_getElem? (i := 30) rfl)) (by decide) (by decide) (by decide) (by decide) (by decide) e2 (g := (mkF m 16 #[.val (.ref a), .val (.long tt), .second, .val (.long (own_f4 tt (86400 : Int64))), .second, .unset, .unset, .unset] [(.long (own_f5 tt (86400 : Int64))), (.ref a)])) rfl (by rw [hml]; rfl) E_a (argsL := [(.long (own_f5 tt (86400 : Int64)))]) (rest := []) rfl (lenOf own_pd_3 rfl) rfl (by show 2 * 0 + _ ≤ _; exact Nat.le_of_eq rfl) (hb hby own_d3_16)
  obtain ⟨hd3, Nq3, e3⟩ := Q3
  have N3 := Fr.app N2 Nq3
  rcases hd3 with ⟨rfl, k0⟩ | ⟨rfl, k0, k1⟩ | ⟨rfl, k0, k1⟩
  · skip
    refine Go.s (fun {t} => st3) ?_
    show Go p.tables e below P (T3.setTop (mkF m 19 #[.val (.ref a), .val (.long tt), .second, .val (.long (own_f4 tt (86400 : Int64))), .second, .unset, .unset, .unset] [(.int (1 : Int32))]))
    refine Go.s (fun kz => XS.istore X3.here hx rfl (hb hby own_d3_19) rfl (l' := #[.val (.ref a), .val (.long tt), .second, .val (.long (own_f4 tt (86400 : Int64))), .second, .val (.int (1 : Int32)), .unset, .unset]) rfl kz) ?_
    show Go p.tables e below P (T3.setTop (mkF m 21 #[.val (.ref a), .val (.long tt), .second, .val (.long (own_f4 tt (86400 : Int64))), .second, .val (.int (1 : Int32)), .unset, .unset] []))
    refine Go.s (fun kz => XS.iload X3.here hx rfl (hb hby own_d3_21) rfl kz) ?_
    show Go p.tables e below P (T3.setTop (mkF m 23 #[.val (.ref a), .val (.long tt), .second, .val (.long (own_f4 tt (86400 : Int64))), .second, .val (.int (1 : Int32)), .unset, .unset] [(.int (1 : Int32))]))
    refine Go.s (fun kz => XS.aloadN X3.here hx rfl (hb hby own_d3_23) rfl rfl kz) ?_
    show Go p.tables e below P (T3.setTop (mkF m 24 #[.val (.ref a), .val (.long tt), .second, .val (.long (own_f4 tt (86400 : Int64))), .second, .val (.int (1 : Int32)), .unset, .unset] [(.ref a), (.int (1 : Int32))]))
    obtain ⟨T4, X4, e4, st4⟩ := getF X3 hx hZ hown (host := "") (Or.inl (hw _ (List.mem_of_getElem? (i := 12) rfl))) Via.refl e3 F_s (g := (mkF m 24 #[.val (.ref a), .val (.long tt), .second, .val (.long (own_f4 tt (86400 : Int64))), .second, .val (.int (1 : Int32)), .unset, .unset] [(.ref a), (.int (1 : Int32))])) rfl rfl (hb hby own_d3_24)
    refine Go.s (fun {t} => st4 t) ?_
    show Go p.tables e below P (T4.setTop (mkF m 27 #[.val (.ref a), .val (.long tt), .second, .val (.long (own_f4 tt (86400 : Int64))), .second, .val (.int (1 : Int32)), .unset, .unset] [(.ref b), (.int (1 : Int32))]))
    obtain ⟨cl5, Ar5, q5, Sz5, Ng5, Ha5, Ft5⟩ := id V_b
    refine Go.s (fun {t} kz => X4.arraylength hx (by rw [e4]; exact Ar5.1) (State.isArrayOf_alike hZ.alike Ar5.2.1) (g := (mkF m 27 #[.val (.ref a), .val (.long tt), .second, .val (.long (own_f4 tt (86400 : Int64))), .second, .val (.int (1 : Int32)), .unset, .unset] [(.ref b), (.int (1 : Int32))])) rfl rfl (hb hby own_d3_27) _ kz) ?_
    rw [len_of Sz5 Ng5]
    show Go p.tables e below P (T4.setTop (mkF m 28 #[.val (.ref a), .val (.long tt), .second, .val (.long (own_f4 tt (86400 : Int64))), .second, .val (.int (1 : Int32)), .unset, .unset] [(.int (1 : Int32)), (.int (1 : Int32))]))
    refine Go.s (fun kz => XS.icmpYes X4.here hx rfl (pc0 := 28) (pc' := 50) rfl (hb hby own_d3_28) rfl (XT.ii_ge_t (by decide)) (by decide) (by decide) kz) ?_
    show Go p.tables e below P (T4.setTop (mkF m 50 #[.val (.ref a), .val (.long tt), .second, .val (.long (own_f4 tt (86400 : Int64))), .second, .val (.int (1 : Int32)), .unset, .unset] []))
    refine Go.s (fun kz => XT.lloadN X4.here hx rfl (hb hby own_d3_50) rfl kz) ?_
    show Go p.tables e below P (T4.setTop (mkF m 51 #[.val (.ref a), .val (.long tt), .second, .val (.long (own_f4 tt (86400 : Int64))), .second, .val (.int (1 : Int32)), .unset, .unset] [(.long (own_f4 tt (86400 : Int64)))]))
    refine Go.s (fun kz => XT.lconst X4.here hx rfl (hb hby own_d3_51) kz) ?_
    show Go p.tables e below P (T4.setTop (mkF m 52 #[.val (.ref a), .val (.long tt), .second, .val (.long (own_f4 tt (86400 : Int64))), .second, .val (.int (1 : Int32)), .unset, .unset] [(.long (1 : Int64)), (.long (own_f4 tt (86400 : Int64)))]))
    refine Go.s (fun kz => XT.ladd X4.here hx rfl (hb hby own_d3_52) rfl kz) ?_
    show Go p.tables e below P (T4.setTop (mkF m 53 #[.val (.ref a), .val (.long tt), .second, .val (.long (own_f4 tt (86400 : Int64))), .second, .val (.int (1 : Int32)), .unset, .unset] [(.long ((own_f4 tt (86400 : Int64)) + (1 : Int64)))]))
    refine Go.s (fun kz => X4.ldc2J hx hown (mvT hZ (hw _ (List.mem_of_getElem? (i := 19) rfl))) rfl (hb hby own_d3_53) kz) ?_
    show Go p.tables e below P (T4.setTop (mkF m 56 #[.val (.ref a), .val (.long tt), .second, .val (.long (own_f4 tt (86400 : Int64))), .second, .val (.int (1 : Int32)), .unset, .unset] [(.long (86400 : Int64)), (.long ((own_f4 tt (86400 : Int64)) + (1 : Int64)))]))
    refine Go.s (fun kz => XT.lmul X4.here hx rfl (hb hby own_d3_56) rfl kz) ?_
    show Go p.tables e below P (T4.setTop (mkF m 57 #[.val (.ref a), .val (.long tt), .second, .val (.long (own_f4 tt (86400 : Int64))), .second, .val (.int (1 : Int32)), .unset, .unset] [(.long (((own_f4 tt (86400 : Int64)) + (1 : Int64)) * (86400 : Int64)))]))
    refine Go.s (fun kz => XS.aloadN X4.here hx rfl (hb hby own_d3_57) rfl rfl kz) ?_
    show Go p.tables e below P (T4.setTop (mkF m 58 #[.val (.ref a), .val (.long tt), .second, .val (.long (own_f4 tt (86400 : Int64))), .second, .val (.int (1 : Int32)), .unset, .unset] [(.ref a), (.long (((own_f4 tt (86400 : Int64)) + (1 : Int64)) * (86400 : Int64)))]))
    obtain ⟨T6, X6, e6, st6⟩ := getF X4 hx hZ hown (host := "") (Or.inl (hw _ (List.mem_of_getElem? (i := 12) rfl))) Via.refl e4 F_s (g := (mkF m 58 #[.val (.ref a), .val (.long tt), .second, .val (.long (own_f4 tt (86400 : Int64))), .second, .val (.int (1 : Int32)), .unset, .unset] [(.ref a), (.long (((own_f4 tt (86400 : Int64)) + (1 : Int64)) * (86400 : Int64)))])) rfl rfl (hb hby own_d3_58)
    refine Go.s (fun {t} => st6 t) ?_
    show Go p.tables e below P (T6.setTop (mkF m 61 #[.val (.ref a), .val (.long tt), .second, .val (.long (own_f4 tt (86400 : Int64))), .second, .val (.int (1 : Int32)), .unset, .unset] [(.ref b), (.long (((own_f4 tt (86400 : Int64)) + (1 : Int64)) * (86400 : Int64)))]))
    refine Go.s (fun kz => XS.iconst X6.here hx rfl (hb hby own_d3_61) kz) ?_
    show Go p.tables e below P (T6.setTop (mkF m 62 #[.val (.ref a), .val (.long tt), .second, .val (.long (own_f4 tt (86400 : Int64))), .second, .val (.int (1 : Int32)), .unset, .unset] [(.int (0 : Int32)), (.ref b), (.long (((own_f4 tt (86400 : Int64)) + (1 : Int64)) * (86400 : Int64)))]))
    obtain ⟨cl7, Ar7, q7, Sz7, Ng7, Ha7, Ft7⟩ := id V_b
    have hin7 := inb_of (j := (0 : Int32)) Sz7 ⟨by decide, by decide⟩
    have hat7 := Has.at Ha7 hin7 (v := (.int s0)) rfl
    refine Go.s (fun {t} kz => X6.iaload hx (j := (0 : Int32)) (v := (.int s0)) (by rw [e6]; exact Ar7.1) (State.isArrayOf_alike hZ.alike Ar7.2.1) Ar7.2.2 hin7 hat7 (g := (mkF m 62 #[.val (.ref a), .val (.long tt), .second, .val (.long (own_f4 tt (86400 : Int64))), .second, .val (.int (1 : Int32)), .unset, .unset] [(.int (0 : Int32)), (.ref b), (.long (((own_f4 tt (86400 : Int64)) + (1 : Int64)) * (86400 : Int64)))])) rfl rfl (hb hby own_d3_62) _ kz) ?_
    show Go p.tables e below P (T6.setTop (mkF m 63 #[.val (.ref a), .val (.long tt), .second, .val (.long (own_f4 tt (86400 : Int64))), .second, .val (.int (1 : Int32)), .unset, .unset] [(.int s0), (.long (((own_f4 tt (86400 : Int64)) + (1 : Int64)) * (86400 : Int64)))]))
    refine Go.s (fun kz => XT.i2l X6.here hx rfl (hb hby own_d3_63) rfl kz) ?_
    show Go p.tables e below P (T6.setTop (mkF m 64 #[.val (.ref a), .val (.long tt), .second, .val (.long (own_f4 tt (86400 : Int64))), .second, .val (.int (1 : Int32)), .unset, .unset] [(.long s0.toInt64), (.long (((own_f4 tt (86400 : Int64)) + (1 : Int64)) * (86400 : Int64)))]))
    refine Go.s (fun kz => XT.ladd X6.here hx rfl (hb hby own_d3_64) rfl kz) ?_
    show Go p.tables e below P (T6.setTop (mkF m 65 #[.val (.ref a), .val (.long tt), .second, .val (.long (own_f4 tt (86400 : Int64))), .second, .val (.int (1 : Int32)), .unset, .unset] [(.long ((((own_f4 tt (86400 : Int64)) + (1 : Int64)) * (86400 : Int64)) + s0.toInt64))]))
    refine Go.s (fun kz => XT.lstore X6.here hx rfl (hb hby own_d3_65) rfl (l' := #[.val (.ref a), .val (.long tt), .second, .val (.long (own_f4 tt (86400 : Int64))), .second, .val (.int (1 : Int32)), .val (.long ((((own_f4 tt (86400 : Int64)) + (1 : Int64)) * (86400 : Int64)) + s0.toInt64)), .second]) rfl kz) ?_
    show Go p.tables e below P (T6.setTop (mkF m 67 #[.val (.ref a), .val (.long tt), .second, .val (.long (own_f4 tt (86400 : Int64))), .second, .val (.int (1 : Int32)), .val (.long ((((own_f4 tt (86400 : Int64)) + (1 : Int64)) * (86400 : Int64)) + s0.toInt64)), .second] []))
    refine Go.s (fun kz => XT.lload X6.here hx rfl (hb hby own_d3_67) rfl kz) ?_
    show Go p.tables e below P (T6.setTop (mkF m 69 #[.val (.ref a), .val (.long tt), .second, .val (.long (own_f4 tt (86400 : Int64))), .second, .val (.int (1 : Int32)), .val (.long ((((own_f4 tt (86400 : Int64)) + (1 : Int64)) * (86400 : Int64)) + s0.toInt64)), .second] [(.long ((((own_f4 tt (86400 : Int64)) + (1 : Int64)) * (86400 : Int64)) + s0.toInt64))]))
    exact Go.retJ X6 hx hlk hret (hb hby own_d3_69) (fun U hU hF => hP U _ _ (by rw [hU, e6]; exact ⟨(Or.inl (⟨rfl, k0⟩)), N3, rfl⟩) ⟨hF.1, hF.2.1, hF.2.2.mono (by decide) (by decide)⟩)
  · skip
    refine Go.s (fun {t} => st3) ?_
    show Go p.tables e below P (T3.setTop (mkF m 19 #[.val (.ref a), .val (.long tt), .second, .val (.long (own_f4 tt (86400 : Int64))), .second, .unset, .unset, .unset] [(.int (0 : Int32))]))
    refine Go.s (fun kz => XS.istore X3.here hx rfl (hb hby own_d3_19) rfl (l' := #[.val (.ref a), .val (.long tt), .second, .val (.long (own_f4 tt (86400 : Int64))), .second, .val (.int (0 : Int32)), .unset, .unset]) rfl kz) ?_
    show Go p.tables e below P (T3.setTop (mkF m 21 #[.val (.ref a), .val (.long tt), .second, .val (.long (own_f4 tt (86400 : Int64))), .second, .val (.int (0 : Int32)), .unset, .unset] []))
    refine Go.s (fun kz => XS.iload X3.here hx rfl (hb hby own_d3_21) rfl kz) ?_
    show Go p.tables e below P (T3.setTop (mkF m 23 #[.val (.ref a), .val (.long tt), .second, .val (.long (own_f4 tt (86400 : Int64))), .second, .val (.int (0 : Int32)), .unset, .unset] [(.int (0 : Int32))]))
    refine Go.s (fun kz => XS.aloadN X3.here hx rfl (hb hby own_d3_23) rfl rfl kz) ?_
    show Go p.tables e below P (T3.setTop (mkF m 24 #[.val (.ref a), .val (.long tt), .second, .val (.long (own_f4 tt (86400 : Int64))), .second, .val (.int (0 : Int32)), .unset, .unset] [(.ref a), (.int (0 : Int32))]))
    obtain ⟨T8, X8, e8, st8⟩ := getF X3 hx hZ hown (host := "") (Or.inl (hw _ (List.mem_of_getElem? (i := 12) rfl))) Via.refl e3 F_s (g := (mkF m 24 #[.val (.ref a), .val (.long tt), .second, .val (.long (own_f4 tt (86400 : Int64))), .second, .val (.int (0 : Int32)), .unset, .unset] [(.ref a), (.int (0 : Int32))])) rfl rfl (hb hby own_d3_24)
    refine Go.s (fun {t} => st8 t) ?_
    show Go p.tables e below P (T8.setTop (mkF m 27 #[.val (.ref a), .val (.long tt), .second, .val (.long (own_f4 tt (86400 : Int64))), .second, .val (.int (0 : Int32)), .unset, .unset] [(.ref b), (.int (0 : Int32))]))
    obtain ⟨cl9, Ar9, q9, Sz9, Ng9, Ha9, Ft9⟩ := id V_b
    refine Go.s (fun {t} kz => X8.arraylength hx (by rw [e8]; exact Ar9.1) (State.isArrayOf_alike hZ.alike Ar9.2.1) (g := (mkF m 27 #[.val (.ref a), .val (.long tt), .second, .val (.long (own_f4 tt (86400 : Int64))), .second, .val (.int (0 : Int32)), .unset, .unset] [(.ref b), (.int (0 : Int32))])) rfl rfl (hb hby own_d3_27) _ kz) ?_
    rw [len_of Sz9 Ng9]
    show Go p.tables e below P (T8.setTop (mkF m 28 #[.val (.ref a), .val (.long tt), .second, .val (.long (own_f4 tt (86400 : Int64))), .second, .val (.int (0 : Int32)), .unset, .unset] [(.int (1 : Int32)), (.int (0 : Int32))]))
    refine Go.s (fun kz => XS.icmpNo X8.here hx rfl (hb hby own_d3_28) rfl (XT.ii_ge_f (by decide)) kz) ?_
    show Go p.tables e below P (T8.setTop (mkF m 31 #[.val (.ref a), .val (.long tt), .second, .val (.long (own_f4 tt (86400 : Int64))), .second, .val (.int (0 : Int32)), .unset, .unset] []))
    refine Go.s (fun kz => XT.lloadN X8.here hx rfl (hb hby own_d3_31) rfl kz) ?_
    show Go p.tables e below P (T8.setTop (mkF m 32 #[.val (.ref a), .val (.long tt), .second, .val (.long (own_f4 tt (86400 : Int64))), .second, .val (.int (0 : Int32)), .unset, .unset] [(.long (own_f4 tt (86400 : Int64)))]))
    refine Go.s (fun kz => X8.ldc2J hx hown (mvT hZ (hw _ (List.mem_of_getElem? (i := 19) rfl))) rfl (hb hby own_d3_32) kz) ?_
    show Go p.tables e below P (T8.setTop (mkF m 35 #[.val (.ref a), .val (.long tt), .second, .val (.long (own_f4 tt (86400 : Int64))), .second, .val (.int (0 : Int32)), .unset, .unset] [(.long (86400 : Int64)), (.long (own_f4 tt (86400 : Int64)))]))
    refine Go.s (fun kz => XT.lmul X8.here hx rfl (hb hby own_d3_35) rfl kz) ?_
    show Go p.tables e below P (T8.setTop (mkF m 36 #[.val (.ref a), .val (.long tt), .second, .val (.long (own_f4 tt (86400 : Int64))), .second, .val (.int (0 : Int32)), .unset, .unset] [(.long ((own_f4 tt (86400 : Int64)) * (86400 : Int64)))]))
    refine Go.s (fun kz => XS.aloadN X8.here hx rfl (hb hby own_d3_36) rfl rfl kz) ?_
    show Go p.tables e below P (T8.setTop (mkF m 37 #[.val (.ref a), .val (.long tt), .second, .val (.long (own_f4 tt (86400 : Int64))), .second, .val (.int (0 : Int32)), .unset, .unset] [(.ref a), (.long ((own_f4 tt (86400 : Int64)) * (86400 : Int64)))]))
    obtain ⟨T10, X10, e10, st10⟩ := getF X8 hx hZ hown (host := "") (Or.inl (hw _ (List.mem_of_getElem? (i := 12) rfl))) Via.refl e8 F_s (g := (mkF m 37 #[.val (.ref a), .val (.long tt), .second, .val (.long (own_f4 tt (86400 : Int64))), .second, .val (.int (0 : Int32)), .unset, .unset] [(.ref a), (.long ((own_f4 tt (86400 : Int64)) * (86400 : Int64)))])) rfl rfl (hb hby own_d3_37)
    refine Go.s (fun {t} => st10 t) ?_
    show Go p.tables e below P (T10.setTop (mkF m 40 #[.val (.ref a), .val (.long tt), .second, .val (.long (own_f4 tt (86400 : Int64))), .second, .val (.int (0 : Int32)), .unset, .unset] [(.ref b), (.long ((own_f4 tt (86400 : Int64)) * (86400 : Int64)))]))
    refine Go.s (fun kz => XS.iload X10.here hx rfl (hb hby own_d3_40) rfl kz) ?_
    show Go p.tables e below P (T10.setTop (mkF m 42 #[.val (.ref a), .val (.long tt), .second, .val (.long (own_f4 tt (86400 : Int64))), .second, .val (.int (0 : Int32)), .unset, .unset] [(.int (0 : Int32)), (.ref b), (.long ((own_f4 tt (86400 : Int64)) * (86400 : Int64)))]))
    obtain ⟨cl11, Ar11, q11, Sz11, Ng11, Ha11, Ft11⟩ := id V_b
    have hin11 := inb_of (j := (0 : Int32)) Sz11 ⟨by decide, by decide⟩
    have hat11 := Has.at Ha11 hin11 (v := (.int s0)) rfl
    refine Go.s (fun {t} kz => X10.iaload hx (j := (0 : Int32)) (v := (.int s0)) (by rw [e10]; exact Ar11.1) (State.isArrayOf_alike hZ.alike Ar11.2.1) Ar11.2.2 hin11 hat11 (g := (mkF m 42 #[.val (.ref a), .val (.long tt), .second, .val (.long (own_f4 tt (86400 : Int64))), .second, .val (.int (0 : Int32)), .unset, .unset] [(.int (0 : Int32)), (.ref b), (.long ((own_f4 tt (86400 : Int64)) * (86400 : Int64)))])) rfl rfl (hb hby own_d3_42) _ kz) ?_
    show Go p.tables e below P (T10.setTop (mkF m 43 #[.val (.ref a), .val (.long tt), .second, .val (.long (own_f4 tt (86400 : Int64))), .second, .val (.int (0 : Int32)), .unset, .unset] [(.int s0), (.long ((own_f4 tt (86400 : Int64)) * (86400 : Int64)))]))
    refine Go.s (fun kz => XT.i2l X10.here hx rfl (hb hby own_d3_43) rfl kz) ?_
    show Go p.tables e below P (T10.setTop (mkF m 44 #[.val (.ref a), .val (.long tt), .second, .val (.long (own_f4 tt (86400 : Int64))), .second, .val (.int (0 : Int32)), .unset, .unset] [(.long s0.toInt64), (.long ((own_f4 tt (86400 : Int64)) * (86400 : Int64)))]))
    refine Go.s (fun kz => XT.ladd X10.here hx rfl (hb hby own_d3_44) rfl kz) ?_
    show Go p.tables e below P (T10.setTop (mkF m 45 #[.val (.ref a), .val (.long tt), .second, .val (.long (own_f4 tt (86400 : Int64))), .second, .val (.int (0 : Int32)), .unset, .unset] [(.long (((own_f4 tt (86400 : Int64)) * (86400 : Int64)) + s0.toInt64))]))
    refine Go.s (fun kz => XT.lstore X10.here hx rfl (hb hby own_d3_45) rfl (l' := #[.val (.ref a), .val (.long tt), .second, .val (.long (own_f4 tt (86400 : Int64))), .second, .val (.int (0 : Int32)), .val (.long (((own_f4 tt (86400 : Int64)) * (86400 : Int64)) + s0.toInt64)), .second]) rfl kz) ?_
    show Go p.tables e below P (T10.setTop (mkF m 47 #[.val (.ref a), .val (.long tt), .second, .val (.long (own_f4 tt (86400 : Int64))), .second, .val (.int (0 : Int32)), .val (.long (((own_f4 tt (86400 : Int64)) * (86400 : Int64)) + s0.toInt64)), .second] []))
    refine Go.s (fun kz => XS.goto X10.here hx rfl (pc0 := 47) (pc' := 67) rfl (hb hby own_d3_47) (by decide) (by decide) kz) ?_
    show Go p.tables e below P (T10.setTop (mkF m 67 #[.val (.ref a), .val (.long tt), .second, .val (.long (own_f4 tt (86400 : Int64))), .second, .val (.int (0 : Int32)), .val (.long (((own_f4 tt (86400 : Int64)) * (86400 : Int64)) + s0.toInt64)), .second] []))
    refine Go.s (fun kz => XT.lload X10.here hx rfl (hb hby own_d3_67) rfl kz) ?_
    show Go p.tables e below P (T10.setTop (mkF m 69 #[.val (.ref a), .val (.long tt), .second, .val (.long (own_f4 tt (86400 : Int64))), .second, .val (.int (0 : Int32)), .val (.long (((own_f4 tt (86400 : Int64)) * (86400 : Int64)) + s0.toInt64)), .second] [(.long (((own_f4 tt (86400 : Int64)) * (86400 : Int64)) + s0.toInt64))]))
    exact Go.retJ X10 hx hlk hret (hb hby own_d3_69) (fun U hU hF => hP U _ _ (by rw [hU, e10]; exact ⟨(Or.inr (Or.inl (⟨rfl, k0, k1⟩))), N3, rfl⟩) ⟨hF.1, hF.2.1, hF.2.2.mono (by decide) (by decide)⟩)
  · skip
    refine Go.s (fun {t} => st3) ?_
    show Go p.tables e below P (T3.setTop (mkF m 19 #[.val (.ref a), .val (.long tt), .second, .val (.long (own_f4 tt (86400 : Int64))), .second, .unset, .unset, .unset] [(.int (0 : Int32))]))
    refine Go.s (fun kz => XS.istore X3.here hx rfl (hb hby own_d3_19) rfl (l' := #[.val (.ref a), .val (.long tt), .second, .val (.long (own_f4 tt (86400 : Int64))), .second, .val (.int (0 : Int32)), .unset, .unset]) rfl kz) ?_
    show Go p.tables e below P (T3.setTop (mkF m 21 #[.val (.ref a), .val (.long tt), .second, .val (.long (own_f4 tt (86400 : Int64))), .second, .val (.int (0 : Int32)), .unset, .unset] []))
    refine Go.s (fun kz => XS.iload X3.here hx rfl (hb hby own_d3_21) rfl kz) ?_
    show Go p.tables e below P (T3.setTop (mkF m 23 #[.val (.ref a), .val (.long tt), .second, .val (.long (own_f4 tt (86400 : Int64))), .second, .val (.int (0 : Int32)), .unset, .unset] [(.int (0 : Int32))]))
    refine Go.s (fun kz => XS.aloadN X3.here hx rfl (hb hby own_d3_23) rfl rfl kz) ?_
    show Go p.tables e below P (T3.setTop (mkF m 24 #[.val (.ref a), .val (.long tt), .second, .val (.long (own_f4 tt (86400 : Int64))), .second, .val (.int (0 : Int32)), .unset, .unset] [(.ref a), (.int (0 : Int32))]))
    obtain ⟨T12, X12, e12, st12⟩ := getF X3 hx hZ hown (host := "") (Or.inl (hw _ (List.mem_of_getElem? (i := 12) rfl))) Via.refl e3 F_s (g := (mkF m 24 #[.val (.ref a), .val (.long tt), .second, .val (.long (own_f4 tt (86400 : Int64))), .second, .val (.int (0 : Int32)), .unset, .unset] [(.ref a), (.int (0 : Int32))])) rfl rfl (hb hby own_d3_24)
    refine Go.s (fun {t} => st12 t) ?_
    show Go p.tables e below P (T12.setTop (mkF m 27 #[.val (.ref a), .val (.long tt), .second, .val (.long (own_f4 tt (86400 : Int64))), .second, .val (.int (0 : Int32)), .unset, .unset] [(.ref b), (.int (0 : Int32))]))
    obtain ⟨cl13, Ar13, q13, Sz13, Ng13, Ha13, Ft13⟩ := id V_b
    refine Go.s (fun {t} kz => X12.arraylength hx (by rw [e12]; exact Ar13.1) (State.isArrayOf_alike hZ.alike Ar13.2.1) (g := (mkF m 27 #[.val (.ref a), .val (.long tt), .second, .val (.long (own_f4 tt (86400 : Int64))), .second, .val (.int (0 : Int32)), .unset, .unset] [(.ref b), (.int (0 : Int32))])) rfl rfl (hb hby own_d3_27) _ kz) ?_
    rw [len_of Sz13 Ng13]
    show Go p.tables e below P (T12.setTop (mkF m 28 #[.val (.ref a), .val (.long tt), .second, .val (.long (own_f4 tt (86400 : Int64))), .second, .val (.int (0 : Int32)), .unset, .unset] [(.int (1 : Int32)), (.int (0 : Int32))]))
    refine Go.s (fun kz => XS.icmpNo X12.here hx rfl (hb hby own_d3_28) rfl (XT.ii_ge_f (by decide)) kz) ?_
    show Go p.tables e below P (T12.setTop (mkF m 31 #[.val (.ref a), .val (.long tt), .second, .val (.long (own_f4 tt (86400 : Int64))), .second, .val (.int (0 : Int32)), .unset, .unset] []))
    refine Go.s (fun kz => XT.lloadN X12.here hx rfl (hb hby own_d3_31) rfl kz) ?_
    show Go p.tables e below P (T12.setTop (mkF m 32 #[.val (.ref a), .val (.long tt), .second, .val (.long (own_f4 tt (86400 : Int64))), .second, .val (.int (0 : Int32)), .unset, .unset] [(.long (own_f4 tt (86400 : Int64)))]))
    refine Go.s (fun kz => X12.ldc2J hx hown (mvT hZ (hw _ (List.mem_of_getElem? (i := 19) rfl))) rfl (hb hby own_d3_32) kz) ?_
    show Go p.tables e below P (T12.setTop (mkF m 35 #[.val (.ref a), .val (.long tt), .second, .val (.long (own_f4 tt (86400 : Int64))), .second, .val (.int (0 : Int32)), .unset, .unset] [(.long (86400 : Int64)), (.long (own_f4 tt (86400 : Int64)))]))
    refine Go.s (fun kz => XT.lmul X12.here hx rfl (hb hby own_d3_35) rfl kz) ?_
    show Go p.tables e below P (T12.setTop (mkF m 36 #[.val (.ref a), .val (.long tt), .second, .val (.long (own_f4 tt (86400 : Int64))), .second, .val (.int (0 : Int32)), .unset, .unset] [(.long ((own_f4 tt (86400 : Int64)) * (86400 : Int64)))]))
    refine Go.s (fun kz => XS.aloadN X12.here hx rfl (hb hby own_d3_36) rfl rfl kz) ?_
    show Go p.tables e below P (T12.setTop (mkF m 37 #[.val (.ref a), .val (.long tt), .second, .val (.long (own_f4 tt (86400 : Int64))), .second, .val (.int (0 : Int32)), .unset, .unset] [(.ref a), (.long ((own_f4 tt (86400 : Int64)) * (86400 : Int64)))]))
    obtain ⟨T14, X14, e14, st14⟩ := getF X12 hx hZ hown (host := "") (Or.inl (hw _ (List.mem_of_getElem? (i := 12) rfl))) Via.refl e12 F_s (g := (mkF m 37 #[.val (.ref a), .val (.long tt), .second, .val (.long (own_f4 tt (86400 : Int64))), .second, .val (.int (0 : Int32)), .unset, .unset] [(.ref a), (.long ((own_f4 tt (86400 : Int64)) * (86400 : Int64)))])) rfl rfl (hb hby own_d3_37)
    refine Go.s (fun {t} => st14 t) ?_
    show Go p.tables e below P (T14.setTop (mkF m 40 #[.val (.ref a), .val (.long tt), .second, .val (.long (own_f4 tt (86400 : Int64))), .second, .val (.int (0 : Int32)), .unset, .unset] [(.ref b), (.long ((own_f4 tt (86400 : Int64)) * (86400 : Int64)))]))
    refine Go.s (fun kz => XS.iload X14.here hx rfl (hb hby own_d3_40) rfl kz) ?_
    show Go p.tables e below P (T14.setTop (mkF m 42 #[.val (.ref a), .val (.long tt), .second, .val (.long (own_f4 tt (86400 : Int64))), .second, .val (.int (0 : Int32)), .unset, .unset] [(.int (0 : Int32)), (.ref b), (.long ((own_f4 tt (86400 : Int64)) * (86400 : Int64)))]))
    obtain ⟨cl15, Ar15, q15, Sz15, Ng15, Ha15, Ft15⟩ := id V_b
    have hin15 := inb_of (j := (0 : Int32)) Sz15 ⟨by decide, by decide⟩
    have hat15 := Has.at Ha15 hin15 (v := (.int s0)) rfl
    refine Go.s (fun {t} kz => X14.iaload hx (j := (0 : Int32)) (v := (.int s0)) (by rw [e14]; exact Ar15.1) (State.isArrayOf_alike hZ.alike Ar15.2.1) Ar15.2.2 hin15 hat15 (g := (mkF m 42 #[.val (.ref a), .val (.long tt), .second, .val (.long (own_f4 tt (86400 : Int64))), .second, .val (.int (0 : Int32)), .unset, .unset] [(.int (0 : Int32)), (.ref b), (.long ((own_f4 tt (86400 : Int64)) * (86400 : Int64)))])) rfl rfl (hb hby own_d3_42) _ kz) ?_
    show Go p.tables e below P (T14.setTop (mkF m 43 #[.val (.ref a), .val (.long tt), .second, .val (.long (own_f4 tt (86400 : Int64))), .second, .val (.int (0 : Int32)), .unset, .unset] [(.int s0), (.long ((own_f4 tt (86400 : Int64)) * (86400 : Int64)))]))
    refine Go.s (fun kz => XT.i2l X14.here hx rfl (hb hby own_d3_43) rfl kz) ?_
    show Go p.tables e below P (T14.setTop (mkF m 44 #[.val (.ref a), .val (.long tt), .second, .val (.long (own_f4 tt (86400 : Int64))), .second, .val (.int (0 : Int32)), .unset, .unset] [(.long s0.toInt64), (.long ((own_f4 tt (86400 : Int64)) * (86400 : Int64)))]))
    refine Go.s (fun kz => XT.ladd X14.here hx rfl (hb hby own_d3_44) rfl kz) ?_
    show Go p.tables e below P (T14.setTop (mkF m 45 #[.val (.ref a), .val (.long tt), .second, .val (.long (own_f4 tt (86400 : Int64))), .second, .val (.int (0 : Int32)), .unset, .unset] [(.long (((own_f4 tt (86400 : Int64)) * (86400 : Int64)) + s0.toInt64))]))
    refine Go.s (fun kz => XT.lstore X14.here hx rfl (hb hby own_d3_45) rfl (l' := #[.val (.ref a), .val (.long tt), .second, .val (.long (own_f4 tt (86400 : Int64))), .second, .val (.int (0 : Int32)), .val (.long (((own_f4 tt (86400 : Int64)) * (86400 : Int64)) + s0.toInt64)), .second]) rfl kz) ?_
    show Go p.tables e below P (T14.setTop (mkF m 47 #[.val (.ref a), .val (.long tt), .second, .val (.long (own_f4 tt (86400 : Int64))), .second, .val (.int (0 : Int32)), .val (.long (((own_f4 tt (86400 : Int64)) * (86400 : Int64)) + s0.toInt64)), .second] []))
    refine Go.s (fun kz => XS.goto X14.here hx rfl (pc0 := 47) (pc' := 67) rfl (hb hby own_d3_47) (by decide) (by decide) kz) ?_
    show Go p.tables e below P (T14.setTop (mkF m 67 #[.val (.ref a), .val (.long tt), .second, .val (.long (own_f4 tt (86400 : Int64))), .second, .val (.int (0 : Int32)), .val (.long (((own_f4 tt (86400 : Int64)) * (86400 : Int64)) + s0.toInt64)), .second] []))
    refine Go.s (fun kz => XT.lload X14.here hx rfl (hb hby own_d3_67) rfl kz) ?_
    show Go p.tables e below P (T14.setTop (mkF m 69 #[.val (.ref a), .val (.long tt), .second, .val (.long (own_f4 tt (86400 : Int64))), .second, .val (.int (0 : Int32)), .val (.long (((own_f4 tt (86400 : Int64)) * (86400 : Int64)) + s0.toInt64)), .second] [(.long (((own_f4 tt (86400 : Int64)) * (86400 : Int64)) + s0.toInt64))]))
    exact Go.retJ X14 hx hlk hret (hb hby own_d3_69) (fun U hU hF => hP U _ _ (by rw [hU, e14]; exact ⟨(Or.inr (Or.inr (⟨rfl, k0, k1⟩))), N3, rfl⟩) ⟨hF.1, hF.2.1, hF.2.2.mono (by decide) (by decide)⟩)
theorem own_ef8_2 (m : MethodId) (b : Addr) (key : Int32) : entryFrame m #[(.ref b), (.int (0 : Int32)), (.int (2 : Int32)), (.int key)] 8 = mkF m 0 #[.val (.ref b), .val (.int (0 : Int32)), .val (.int (2 : Int32)), .val (.int key), .unset, .unset, .unset, .unset] [] := by
  (first | (simp [entryFrame, mkF, argsToLocals, Value.category]; done) | rfl)
set_option maxRecDepth 65536 in
set_option maxHeartbeats 40000000 in
theorem own_rm8_2 (l : Launch) (Z : State) (a0 : Array Value) (hw : ∀ d ∈ tables_1, d.before a0 Z = true) (ws : List Jvm.Cond) (b kk : Nat) (key s0 s1 : Int32) (h0 : Heap) (n0 : Nat) (Z0 : n0 ≤ h0.size) (V_b : Arv Z h0 b kk .int 2 [.int s0, .int s1] (.int (0 : Int32))) :
    Con l Z (⟨"java/util/Arrays", "binarySearch0", "([IIII)I"⟩ : MethodName) jdk_65_method_59_code 8 (some .int) ws ({ frames := 0, cells := 0, slots := 0, locals := 0 } : Room) #[(.ref b), (.int (0 : Int32)), (.int (2 : Int32)), (.int key)] h0 (fun v h L => ((v = some (.int (-3 : Int32)) ∧ s0 < key ∧ s1 < key) ∨ (v = some (.int (-2 : Int32)) ∧ s0 < key ∧ ¬ s1 < key ∧ key < s1) ∨ (v = some (.int (1 : Int32)) ∧ s0 < key ∧ ¬ s1 < key ∧ ¬ key < s1) ∨ (v = some (.int (-1 : Int32)) ∧ ¬ s0 < key ∧ key < s0) ∨ (v = some (.int (0 : Int32)) ∧ ¬ s0 < key ∧ ¬ key < s0)) ∧ Fr n0 L ∧ h = h0) := by
  refine Con.intro (plainFor_of_name own_pn_1) ?_
  intro p e s m below meth c s₁ P hx hby hml hown hnm hret hlk hZ X0 e0 hP
  have N0 := Fr.nil n0
  have hown : s.vm.findClass "java/util/Arrays" = some m.cls := hown
  refine Go.cast (own_ef8_2 m b key) ?_
  show Go p.tables e below P (s₁.setTop (mkF m 0 #[.val (.ref b), .val (.int (0 : Int32)), .val (.int (2 : Int32)), .val (.int key), .unset, .unset, .unset, .unset] []))
  refine Go.s (fun kz => XS.iloadN X0.here hx rfl (hb hby own_d8_0) rfl kz) ?_
  show Go p.tables e below P (s₁.setTop (mkF m 1 #[.val (.ref b), .val (.int (0 : Int32)), .val (.int (2 : Int32)), .val (.int key), .unset, .unset, .unset, .unset] [(.int (0 : Int32))]))
  refine Go.s (fun kz => XS.istore X0.here hx rfl (hb hby own_d8_1) rfl (l' := #[.val (.ref b), .val (.int (0 : Int32)), .val (.int (2 : Int32)), .val (.int key), .val (.int (0 : Int32)), .unset, .unset, .unset]) rfl kz) ?_
  show Go p.tables e below P (s₁.setTop (mkF m 3 #[.val (.ref b), .val (.int (0 : Int32)), .val (.int (2 : Int32)), .val (.int key), .val (.int (0 : Int32)), .unset, .unset, .unset] []))
  refine Go.s (fun kz => XS.iloadN X0.here hx rfl (hb hby own_d8_3) rfl kz) ?_
  show Go p.tables e below P (s₁.setTop (mkF m 4 #[.val (.ref b), .val (.int (0 : Int32)), .val (.int (2 : Int32)), .val (.int key), .val (.int (0 : Int32)), .unset, .unset, .unset] [(.int (2 : Int32))]))
  refine Go.s (fun kz => XS.iconst X0.here hx rfl (hb hby own_d8_4) kz) ?_
  show Go p.tables e below P (s₁.setTop (mkF m 5 #[.val (.ref b), .val (.int (0 : Int32)), .val (.int (2 : Int32)), .val (.int key), .val (.int (0 : Int32)), .unset, .unset, .unset] [(.int (1 : Int32)), (.int (2 : Int32))]))
  refine Go.s (fun kz => XS.isub X0.here hx rfl (hb hby own_d8_5) rfl kz) ?_
  show Go p.tables e below P (s₁.setTop (mkF m 6 #[.val (.ref b), .val (.int (0 : Int32)), .val (.int (2 : Int32)), .val (.int key), .val (.int (0 : Int32)), .unset, .unset, .unset] [(.int ((2 : Int32) - (1 : Int32)))]))
  rw [show ((2 : Int32) - (1 : Int32)) = (1 : Int32) from by decide]
  show Go p.tables e below P (s₁.setTop (mkF m 6 #[.val (.ref b), .val (.int (0 : Int32)), .val (.int (2 : Int32)), .val (.int key), .val (.int (0 : Int32)), .unset, .unset, .unset] [(.int (1 : Int32))]))
  refine Go.s (fun kz => XS.istore X0.here hx rfl (hb hby own_d8_6) rfl (l' := #[.val (.ref b), .val (.int (0 : Int32)), .val (.int (2 : Int32)), .val (.int key), .val (.int (0 : Int32)), .val (.int (1 : Int32)), .unset, .unset]) rfl kz) ?_
  show Go p.tables e below P (s₁.setTop (mkF m 8 #[.val (.ref b), .val (.int (0 : Int32)), .val (.int (2 : Int32)), .val (.int key), .val (.int (0 : Int32)), .val (.int (1 : Int32)), .unset, .unset] []))
  refine Go.s (fun kz => XS.iload X0.here hx rfl (hb hby own_d8_8) rfl kz) ?_
  show Go p.tables e below P (s₁.setTop (mkF m 10 #[.val (.ref b), .val (.int (0 : Int32)), .val (.int (2 : Int32)), .val (.int key), .val (.int (0 : Int32)), .val (.int (1 : Int32)), .unset, .unset] [(.int (0 : Int32))]))
  refine Go.s (fun kz => XS.iload X0.here hx rfl (hb hby own_d8_10) rfl kz) ?_
  show Go p.tables e below P (s₁.setTop (mkF m 12 #[.val (.ref b), .val (.int (0 : Int32)), .val (.int (2 : Int32)), .val (.int key), .val (.int (0 : Int32)), .val (.int (1 : Int32)), .unset, .unset] [(.int (1 : Int32)), (.int (0 : Int32))]))
  refine Go.s (fun kz => XS.icmpNo X0.here hx rfl (hb hby own_d8_12) rfl (XT.ii_gt_f (by decide)) kz) ?_
  show Go p.tables e below P (s₁.setTop (mkF m 15 #[.val (.ref b), .val (.int (0 : Int32)), .val (.int (2 : Int32)), .val (.int key), .val (.int (0 : Int32)), .val (.int (1 : Int32)), .unset, .unset] []))
  refine Go.s (fun kz => XS.iload X0.here hx rfl (hb hby own_d8_15) rfl kz) ?_
  show Go p.tables e below P (s₁.setTop (mkF m 17 #[.val (.ref b), .val (.int (0 : Int32)), .val (.int (2 : Int32)), .val (.int key), .val (.int (0 : Int32)), .val (.int (1 : Int32)), .unset, .unset] [(.int (0 : Int32))]))
  refine Go.s (fun kz => XS.iload X0.here hx rfl (hb hby own_d8_17) rfl kz) ?_
  show Go p.tables e below P (s₁.setTop (mkF m 19 #[.val (.ref b), .val (.int (0 : Int32)), .val (.int (2 : Int32)), .val (.int key), .val (.int (0 : Int32)), .val (.int (1 : Int32)), .unset, .unset] [(.int (1 : Int32)), (.int (0 : Int32))]))
  refine Go.s (fun kz => XS.iadd X0.here hx rfl (hb hby own_d8_19) rfl kz) ?_
  show Go p.tables e below P (s₁.setTop (mkF m 20 #[.val (.ref b), .val (.int (0 : Int32)), .val (.int (2 : Int32)), .val (.int key), .val (.int (0 : Int32)), .val (.int (1 : Int32)), .unset, .unset] [(.int ((0 : Int32) + (1 : Int32)))]))
  rw [show ((0 : Int32) + (1 : Int32)) = (1 : Int32) from by decide]
  show Go p.tables e below P (s₁.setTop (mkF m 20 #[.val (.ref b), .val (.int (0 : Int32)), .val (.int (2 : Int32)), .val (.int key), .val (.int (0 : Int32)), .val (.int (1 : Int32)), .unset, .unset] [(.int (1 : Int32))]))
  refine Go.s (fun kz => XS.iconst X0.here hx rfl (hb hby own_d8_20) kz) ?_
  show Go p.tables e below P (s₁.setTop (mkF m 21 #[.val (.ref b), .val (.int (0 : Int32)), .val (.int (2 : Int32)), .val (.int key), .val (.int (0 : Int32)), .val (.int (1 : Int32)), .unset, .unset] [(.int (1 : Int32)), (.int (1 : Int32))]))
  refine Go.s (fun kz => XT.iushr X0.here hx rfl (hb hby own_d8_21) rfl kz) ?_
  show Go p.tables e below P (s₁.setTop (mkF m 22 #[.val (.ref b), .val (.int (0 : Int32)), .val (.int (2 : Int32)), .val (.int key), .val (.int (0 : Int32)), .val (.int (1 : Int32)), .unset, .unset] [(.int (XT.ushr (1 : Int32) (1 : Int32)))]))
  rw [show (XT.ushr (1 : Int32) (1 : Int32)) = (0 : Int32) from by decide]
  show Go p.tables e below P (s₁.setTop (mkF m 22 #[.val (.ref b), .val (.int (0 : Int32)), .val (.int (2 : Int32)), .val (.int key), .val (.int (0 : Int32)), .val (.int (1 : Int32)), .unset, .unset] [(.int (0 : Int32))]))
  refine Go.s (fun kz => XS.istore X0.here hx rfl (hb hby own_d8_22) rfl (l' := #[.val (.ref b), .val (.int (0 : Int32)), .val (.int (2 : Int32)), .val (.int key), .val (.int (0 : Int32)), .val (.int (1 : Int32)), .val (.int (0 : Int32)), .unset]) rfl kz) ?_
  show Go p.tables e below P (s₁.setTop (mkF m 24 #[.val (.ref b), .val (.int (0 : Int32)), .val (.int (2 : Int32)), .val (.int key), .val (.int (0 : Int32)), .val (.int (1 : Int32)), .val (.int (0 : Int32)), .unset] []))
  refine Go.s (fun kz => XS.aloadN X0.here hx rfl (hb hby own_d8_24) rfl rfl kz) ?_
  show Go p.tables e below P (s₁.setTop (mkF m 25 #[.val (.ref b), .val (.int (0 : Int32)), .val (.int (2 : Int32)), .val (.int key), .val (.int (0 : Int32)), .val (.int (1 : Int32)), .val (.int (0 : Int32)), .unset] [(.ref b)]))
  refine Go.s (fun kz => XS.iload X0.here hx rfl (hb hby own_d8_25) rfl kz) ?_
  show Go p.tables e below P (s₁.setTop (mkF m 27 #[.val (.ref b), .val (.int (0 : Int32)), .val (.int (2 : Int32)), .val (.int key), .val (.int (0 : Int32)), .val (.int (1 : Int32)), .val (.int (0 : Int32)), .unset] [(.int (0 : Int32)), (.ref b)]))
  obtain ⟨cl1, Ar1, q1, Sz1, Ng1, Ha1, Ft1⟩ := id V_b
  have hin1 := inb_of (j := (0 : Int32)) Sz1 ⟨by decide, by decide⟩
  have hat1 := Has.at Ha1 hin1 (v := (.int s0)) rfl
  refine Go.s (fun {t} kz => X0.iaload hx (j := (0 : Int32)) (v := (.int s0)) (by rw [e0]; exact Ar1.1) (State.isArrayOf_alike hZ.alike Ar1.2.1) Ar1.2.2 hin1 hat1 (g := (mkF m 27 #[.val (.ref b), .val (.int (0 : Int32)), .val (.int (2 : Int32)), .val (.int key), .val (.int (0 : Int32)), .val (.int (1 : Int32)), .val (.int (0 : Int32)), .unset] [(.int (0 : Int32)), (.ref b)])) rfl rfl (hb hby own_d8_27) _ kz) ?_
  show Go p.tables e below P (s₁.setTop (mkF m 28 #[.val (.ref b), .val (.int (0 : Int32)), .val (.int (2 : Int32)), .val (.int key), .val (.int (0 : Int32)), .val (.int (1 : Int32)), .val (.int (0 : Int32)), .unset] [(.int s0)]))
  refine Go.s (fun kz => XS.istore X0.here hx rfl (hb hby own_d8_28) rfl (l' := #[.val (.ref b), .val (.int (0 : Int32)), .val (.int (2 : Int32)), .val (.int key), .val (.int (0 : Int32)), .val (.int (1 : Int32)), .val (.int (0 : Int32)), .val (.int s0)]) rfl kz) ?_
  show Go p.tables e below P (s₁.setTop (mkF m 30 #[.val (.ref b), .val (.int (0 : Int32)), .val (.int (2 : Int32)), .val (.int key), .val (.int (0 : Int32)), .val (.int (1 : Int32)), .val (.int (0 : Int32)), .val (.int s0)] []))
  refine Go.s (fun kz => XS.iload X0.here hx rfl (hb hby own_d8_30) rfl kz) ?_
  show Go p.tables e below P (s₁.setTop (mkF m 32 #[.val (.ref b), .val (.int (0 : Int32)), .val (.int (2 : Int32)), .val (.int key), .val (.int (0 : Int32)), .val (.int (1 : Int32)), .val (.int (0 : Int32)), .val (.int s0)] [(.int s0)]))
  refine Go.s (fun kz => XS.iloadN X0.here hx rfl (hb hby own_d8_32) rfl kz) ?_
  show Go p.tables e below P (s₁.setTop (mkF m 33 #[.val (.ref b), .val (.int (0 : Int32)), .val (.int (2 : Int32)), .val (.int key), .val (.int (0 : Int32)), .val (.int (1 : Int32)), .val (.int (0 : Int32)), .val (.int s0)] [(.int key), (.int s0)]))
  by_cases hc33 : s0 < key
  · skip
    refine Go.s (fun kz => XS.icmpNo X0.here hx rfl (hb hby own_d8_33) rfl (XT.ii_ge_f hc33) kz) ?_
    show Go p.tables e below P (s₁.setTop (mkF m 36 #[.val (.ref b), .val (.int (0 : Int32)), .val (.int (2 : Int32)), .val (.int key), .val (.int (0 : Int32)), .val (.int (1 : Int32)), .val (.int (0 : Int32)), .val (.int s0)] []))
    refine Go.s (fun kz => XS.iload X0.here hx rfl (hb hby own_d8_36) rfl kz) ?_
    show Go p.tables e below P (s₁.setTop (mkF m 38 #[.val (.ref b), .val (.int (0 : Int32)), .val (.int (2 : Int32)), .val (.int key), .val (.int (0 : Int32)), .val (.int (1 : Int32)), .val (.int (0 : Int32)), .val (.int s0)] [(.int (0 : Int32))]))
    refine Go.s (fun kz => XS.iconst X0.here hx rfl (hb hby own_d8_38) kz) ?_
    show Go p.tables e below P (s₁.setTop (mkF m 39 #[.val (.ref b), .val (.int (0 : Int32)), .val (.int (2 : Int32)), .val (.int key), .val (.int (0 : Int32)), .val (.int (1 : Int32)), .val (.int (0 : Int32)), .val (.int s0)] [(.int (1 : Int32)), (.int (0 : Int32))]))
    refine Go.s (fun kz => XS.iadd X0.here hx rfl (hb hby own_d8_39) rfl kz) ?_
    show Go p.tables e below P (s₁.setTop (mkF m 40 #[.val (.ref b), .val (.int (0 : Int32)), .val (.int (2 : Int32)), .val (.int key), .val (.int (0 : Int32)), .val (.int (1 : Int32)), .val (.int (0 : Int32)), .val (.int s0)] [(.int ((0 : Int32) + (1 : Int32)))]))
    rw [show ((0 : Int32) + (1 : Int32)) = (1 : Int32) from by decide]
    show Go p.tables e below P (s₁.setTop (mkF m 40 #[.val (.ref b), .val (.int (0 : Int32)), .val (.int (2 : Int32)), .val (.int key), .val (.int (0 : Int32)), .val (.int (1 : Int32)), .val (.int (0 : Int32)), .val (.int s0)] [(.int (1 : Int32))]))
    refine Go.s (fun kz => XS.istore X0.here hx rfl (hb hby own_d8_40) rfl (l' := #[.val (.ref b), .val (.int (0 : Int32)), .val (.int (2 : Int32)), .val (.int key), .val (.int (1 : Int32)), .val (.int (1 : Int32)), .val (.int (0 : Int32)), .val (.int s0)]) rfl kz) ?_
    show Go p.tables e below P (s₁.setTop (mkF m 42 #[.val (.ref b), .val (.int (0 : Int32)), .val (.int (2 : Int32)), .val (.int key), .val (.int (1 : Int32)), .val (.int (1 : Int32)), .val (.int (0 : Int32)), .val (.int s0)] []))
    refine Go.s (fun kz => XS.goto X0.here hx rfl (pc0 := 42) (pc' := 63) rfl (hb hby own_d8_42) (by decide) (by decide) kz) ?_
    show Go p.tables e below P (s₁.setTop (mkF m 63 #[.val (.ref b), .val (.int (0 : Int32)), .val (.int (2 : Int32)), .val (.int key), .val (.int (1 : Int32)), .val (.int (1 : Int32)), .val (.int (0 : Int32)), .val (.int s0)] []))
    refine Go.s (fun kz => XS.goto X0.here hx rfl (pc0 := 63) (pc' := 8) rfl (hb hby own_d8_63) (by decide) (by decide) kz) ?_
    show Go p.tables e below P (s₁.setTop (mkF m 8 #[.val (.ref b), .val (.int (0 : Int32)), .val (.int (2 : Int32)), .val (.int key), .val (.int (1 : Int32)), .val (.int (1 : Int32)), .val (.int (0 : Int32)), .val (.int s0)] []))
    refine Go.s (fun kz => XS.iload X0.here hx rfl (hb hby own_d8_8) rfl kz) ?_
    show Go p.tables e below P (s₁.setTop (mkF m 10 #[.val (.ref b), .val (.int (0 : Int32)), .val (.int (2 : Int32)), .val (.int key), .val (.int (1 : Int32)), .val (.int (1 : Int32)), .val (.int (0 : Int32)), .val (.int s0)] [(.int (1 : Int32))]))
    refine Go.s (fun kz => XS.iload X0.here hx rfl (hb hby own_d8_10) rfl kz) ?_
    show Go p.tables e below P (s₁.setTop (mkF m 12 #[.val (.ref b), .val (.int (0 : Int32)), .val (.int (2 : Int32)), .val (.int key), .val (.int (1 : Int32)), .val (.int (1 : Int32)), .val (.int (0 : Int32)), .val (.int s0)] [(.int (1 : Int32)), (.int (1 : Int32))]))
    refine Go.s (fun kz => XS.icmpNo X0.here hx rfl (hb hby own_d8_12) rfl (XT.ii_gt_f (by decide)) kz) ?_
    show Go p.tables e below P (s₁.setTop (mkF m 15 #[.val (.ref b), .val (.int (0 : Int32)), .val (.int (2 : Int32)), .val (.int key), .val (.int (1 : Int32)), .val (.int (1 : Int32)), .val (.int (0 : Int32)), .val (.int s0)] []))
    refine Go.s (fun kz => XS.iload X0.here hx rfl (hb hby own_d8_15) rfl kz) ?_
    show Go p.tables e below P (s₁.setTop (mkF m 17 #[.val (.ref b), .val (.int (0 : Int32)), .val (.int (2 : Int32)), .val (.int key), .val (.int (1 : Int32)), .val (.int (1 : Int32)), .val (.int (0 : Int32)), .val (.int s0)] [(.int (1 : Int32))]))
    refine Go.s (fun kz => XS.iload X0.here hx rfl (hb hby own_d8_17) rfl kz) ?_
    show Go p.tables e below P (s₁.setTop (mkF m 19 #[.val (.ref b), .val (.int (0 : Int32)), .val (.int (2 : Int32)), .val (.int key), .val (.int (1 : Int32)), .val (.int (1 : Int32)), .val (.int (0 : Int32)), .val (.int s0)] [(.int (1 : Int32)), (.int (1 : Int32))]))
    refine Go.s (fun kz => XS.iadd X0.here hx rfl (hb hby own_d8_19) rfl kz) ?_
    show Go p.tables e below P (s₁.setTop (mkF m 20 #[.val (.ref b), .val (.int (0 : Int32)), .val (.int (2 : Int32)), .val (.int key), .val (.int (1 : Int32)), .val (.int (1 : Int32)), .val (.int (0 : Int32)), .val (.int s0)] [(.int ((1 : Int32) + (1 : Int32)))]))
    rw [show ((1 : Int32) + (1 : Int32)) = (2 : Int32) from by decide]
    show Go p.tables e below P (s₁.setTop (mkF m 20 #[.val (.ref b), .val (.int (0 : Int32)), .val (.int (2 : Int32)), .val (.int key), .val (.int (1 : Int32)), .val (.int (1 : Int32)), .val (.int (0 : Int32)), .val (.int s0)] [(.int (2 : Int32))]))
    refine Go.s (fun kz => XS.iconst X0.here hx rfl (hb hby own_d8_20) kz) ?_
    show Go p.tables e below P (s₁.setTop (mkF m 21 #[.val (.ref b), .val (.int (0 : Int32)), .val (.int (2 : Int32)), .val (.int key), .val (.int (1 : Int32)), .val (.int (1 : Int32)), .val (.int (0 : Int32)), .val (.int s0)] [(.int (1 : Int32)), (.int (2 : Int32))]))
    refine Go.s (fun kz => XT.iushr X0.here hx rfl (hb hby own_d8_21) rfl kz) ?_
    show Go p.tables e below P (s₁.setTop (mkF m 22 #[.val (.ref b), .val (.int (0 : Int32)), .val (.int (2 : Int32)), .val (.int key), .val (.int (1 : Int32)), .val (.int (1 : Int32)), .val (.int (0 : Int32)), .val (.int s0)] [(.int (XT.ushr (2 : Int32) (1 : Int32)))]))
    rw [show (XT.ushr (2 : Int32) (1 : Int32)) = (1 : Int32) from by decide]
    show Go p.tables e below P (s₁.setTop (mkF m 22 #[.val (.ref b), .val (.int (0 : Int32)), .val (.int (2 : Int32)), .val (.int key), .val (.int (1 : Int32)), .val (.int (1 : Int32)), .val (.int (0 : Int32)), .val (.int s0)] [(.int (1 : Int32))]))
    refine Go.s (fun kz => XS.istore X0.here hx rfl (hb hby own_d8_22) rfl (l' := #[.val (.ref b), .val (.int (0 : Int32)), .val (.int (2 : Int32)), .val (.int key), .val (.int (1 : Int32)), .val (.int (1 : Int32)), .val (.int (1 : Int32)), .val (.int s0)]) rfl kz) ?_
    show Go p.tables e below P (s₁.setTop (mkF m 24 #[.val (.ref b), .val (.int (0 : Int32)), .val (.int (2 : Int32)), .val (.int key), .val (.int (1 : Int32)), .val (.int (1 : Int32)), .val (.int (1 : Int32)), .val (.int s0)] []))
    refine Go.s (fun kz => XS.aloadN X0.here hx rfl (hb hby own_d8_24) rfl rfl kz) ?_
    show Go p.tables e below P (s₁.setTop (mkF m 25 #[.val (.ref b), .val (.int (0 : Int32)), .val (.int (2 : Int32)), .val (.int key), .val (.int (1 : Int32)), .val (.int (1 : Int32)), .val (.int (1 : Int32)), .val (.int s0)] [(.ref b)]))
    refine Go.s (fun kz => XS.iload X0.here hx rfl (hb hby own_d8_25) rfl kz) ?_
    show Go p.tables e below P (s₁.setTop (mkF m 27 #[.val (.ref b), .val (.int (0 : Int32)), .val (.int (2 : Int32)), .val (.int key), .val (.int (1 : Int32)), .val (.int (1 : Int32)), .val (.int (1 : Int32)), .val (.int s0)] [(.int (1 : Int32)), (.ref b)]))
    obtain ⟨cl2, Ar2, q2, Sz2, Ng2, Ha2, Ft2⟩ := id V_b
    have hin2 := inb_of (j := (1 : Int32)) Sz2 ⟨by decide, by decide⟩
    have hat2 := Has.at Ha2 hin2 (v := (.int s1)) rfl
    refine Go.s (fun {t} kz => X0.iaload hx (j := (1 : Int32)) (v := (.int s1)) (by rw [e0]; exact Ar2.1) (State.isArrayOf_alike hZ.alike Ar2.2.1) Ar2.2.2 hin2 hat2 (g := (mkF m 27 #[.val (.ref b), .val (.int (0 : Int32)), .val (.int (2 : Int32)), .val (.int key), .val (.int (1 : Int32)), .val (.int (1 : Int32)), .val (.int (1 : Int32)), .val (.int s0)] [(.int (1 : Int32)), (.ref b)])) rfl rfl (hb hby own_d8_27) _ kz) ?_
    show Go p.tables e below P (s₁.setTop (mkF m 28 #[.val (.ref b), .val (.int (0 : Int32)), .val (.int (2 : Int32)), .val (.int key), .val (.int (1 : Int32)), .val (.int (1 : Int32)), .val (.int (1 : Int32)), .val (.int s0)] [(.int s1)]))
    refine Go.s (fun kz => XS.istore X0.here hx rfl (hb hby own_d8_28) rfl (l' := #[.val (.ref b), .val (.int (0 : Int32)), .val (.int (2 : Int32)), .val (.int key), .val (.int (1 : Int32)), .val (.int (1 : Int32)), .val (.int (1 : Int32)), .val (.int s1)]) rfl kz) ?_
    show Go p.tables e below P (s₁.setTop (mkF m 30 #[.val (.ref b), .val (.int (0 : Int32)), .val (.int (2 : Int32)), .val (.int key), .val (.int (1 : Int32)), .val (.int (1 : Int32)), .val (.int (1 : Int32)), .val (.int s1)] []))
    refine Go.s (fun kz => XS.iload X0.here hx rfl (hb hby own_d8_30) rfl kz) ?_
    show Go p.tables e below P (s₁.setTop (mkF m 32 #[.val (.ref b), .val (.int (0 : Int32)), .val (.int (2 : Int32)), .val (.int key), .val (.int (1 : Int32)), .val (.int (1 : Int32)), .val (.int (1 : Int32)), .val (.int s1)] [(.int s1)]))
    refine Go.s (fun kz => XS.iloadN X0.here hx rfl (hb hby own_d8_32) rfl kz) ?_
    show Go p.tables e below P (s₁.setTop (mkF m 33 #[.val (.ref b), .val (.int (0 : Int32)), .val (.int (2 : Int32)), .val (.int key), .val (.int (1 : Int32)), .val (.int (1 : Int32)), .val (.int (1 : Int32)), .val (.int s1)] [(.int key), (.int s1)]))
    by_cases hc33' : s1 < key
    · skip
      refine Go.s (fun kz => XS.icmpNo X0.here hx rfl (hb hby own_d8_33) rfl (XT.ii_ge_f hc33') kz) ?_
      show Go p.tables e below P (s₁.setTop (mkF m 36 #[.val (.ref b), .val (.int (0 : Int32)), .val (.int (2 : Int32)), .val (.int key), .val (.int (1 : Int32)), .val (.int (1 : Int32)), .val (.int (1 : Int32)), .val (.int s1)] []))
      refine Go.s (fun kz => XS.iload X0.here hx rfl (hb hby own_d8_36) rfl kz) ?_
      show Go p.tables e below P (s₁.setTop (mkF m 38 #[.val (.ref b), .val (.int (0 : Int32)), .val (.int (2 : Int32)), .val (.int key), .val (.int (1 : Int32)), .val (.int (1 : Int32)), .val (.int (1 : Int32)), .val (.int s1)] [(.int (1 : Int32))]))
      refine Go.s (fun kz => XS.iconst X0.here hx rfl (hb hby own_d8_38) kz) ?_
      show Go p.tables e below P (s₁.setTop (mkF m 39 #[.val (.ref b), .val (.int (0 : Int32)), .val (.int (2 : Int32)), .val (.int key), .val (.int (1 : Int32)), .val (.int (1 : Int32)), .val (.int (1 : Int32)), .val (.int s1)] [(.int (1 : Int32)), (.int (1 : Int32))]))
      refine Go.s (fun kz => XS.iadd X0.here hx rfl (hb hby own_d8_39) rfl kz) ?_
      show Go p.tables e below P (s₁.setTop (mkF m 40 #[.val (.ref b), .val (.int (0 : Int32)), .val (.int (2 : Int32)), .val (.int key), .val (.int (1 : Int32)), .val (.int (1 : Int32)), .val (.int (1 : Int32)), .val (.int s1)] [(.int ((1 : Int32) + (1 : Int32)))]))
      rw [show ((1 : Int32) + (1 : Int32)) = (2 : Int32) from by decide]
      show Go p.tables e below P (s₁.setTop (mkF m 40 #[.val (.ref b), .val (.int (0 : Int32)), .val (.int (2 : Int32)), .val (.int key), .val (.int (1 : Int32)), .val (.int (1 : Int32)), .val (.int (1 : Int32)), .val (.int s1)] [(.int (2 : Int32))]))
      refine Go.s (fun kz => XS.istore X0.here hx rfl (hb hby own_d8_40) rfl (l' := #[.val (.ref b), .val (.int (0 : Int32)), .val (.int (2 : Int32)), .val (.int key), .val (.int (2 : Int32)), .val (.int (1 : Int32)), .val (.int (1 : Int32)), .val (.int s1)]) rfl kz) ?_
      show Go p.tables e below P (s₁.setTop (mkF m 42 #[.val (.ref b), .val (.int (0 : Int32)), .val (.int (2 : Int32)), .val (.int key), .val (.int (2 : Int32)), .val (.int (1 : Int32)), .val (.int (1 : Int32)), .val (.int s1)] []))
      refine Go.s (fun kz => XS.goto X0.here hx rfl (pc0 := 42) (pc' := 63) rfl (hb hby own_d8_42) (by decide) (by decide) kz) ?_
      show Go p.tables e below P (s₁.setTop (mkF m 63 #[.val (.ref b), .val (.int (0 : Int32)), .val (.int (2 : Int32)), .val (.int key), .val (.int (2 : Int32)), .val (.int (1 : Int32)), .val (.int (1 : Int32)), .val (.int s1)] []))
      refine Go.s (fun kz => XS.goto X0.here hx rfl (pc0 := 63) (pc' := 8) rfl (hb hby own_d8_63) (by decide) (by decide) kz) ?_
      show Go p.tables e below P (s₁.setTop (mkF m 8 #[.val (.ref b), .val (.int (0 : Int32)), .val (.int (2 : Int32)), .val (.int key), .val (.int (2 : Int32)), .val (.int (1 : Int32)), .val (.int (1 : Int32)), .val (.int s1)] []))
      refine Go.s (fun kz => XS.iload X0.here hx rfl (hb hby own_d8_8) rfl kz) ?_
      show Go p.tables e below P (s₁.setTop (mkF m 10 #[.val (.ref b), .val (.int (0 : Int32)), .val (.int (2 : Int32)), .val (.int key), .val (.int (2 : Int32)), .val (.int (1 : Int32)), .val (.int (1 : Int32)), .val (.int s1)] [(.int (2 : Int32))]))
      refine Go.s (fun kz => XS.iload X0.here hx rfl (hb hby own_d8_10) rfl kz) ?_
      show Go p.tables e below P (s₁.setTop (mkF m 12 #[.val (.ref b), .val (.int (0 : Int32)), .val (.int (2 : Int32)), .val (.int key), .val (.int (2 : Int32)), .val (.int (1 : Int32)), .val (.int (1 : Int32)), .val (.int s1)] [(.int (1 : Int32)), (.int (2 : Int32))]))
      refine Go.s (fun kz => XS.icmpYes X0.here hx rfl (pc0 := 12) (pc' := 66) rfl (hb hby own_d8_12) rfl (XT.ii_gt_t (by decide)) (by decide) (by decide) kz) ?_
      show Go p.tables e below P (s₁.setTop (mkF m 66 #[.val (.ref b), .val (.int (0 : Int32)), .val (.int (2 : Int32)), .val (.int key), .val (.int (2 : Int32)), .val (.int (1 : Int32)), .val (.int (1 : Int32)), .val (.int s1)] []))
      refine Go.s (fun kz => XS.iload X0.here hx rfl (hb hby own_d8_66) rfl kz) ?_
      show Go p.tables e below P (s₁.setTop (mkF m 68 #[.val (.ref b), .val (.int (0 : Int32)), .val (.int (2 : Int32)), .val (.int key), .val (.int (2 : Int32)), .val (.int (1 : Int32)), .val (.int (1 : Int32)), .val (.int s1)] [(.int (2 : Int32))]))
      refine Go.s (fun kz => XS.iconst X0.here hx rfl (hb hby own_d8_68) kz) ?_
      show Go p.tables e below P (s₁.setTop (mkF m 69 #[.val (.ref b), .val (.int (0 : Int32)), .val (.int (2 : Int32)), .val (.int key), .val (.int (2 : Int32)), .val (.int (1 : Int32)), .val (.int (1 : Int32)), .val (.int s1)] [(.int (1 : Int32)), (.int (2 : Int32))]))
      refine Go.s (fun kz => XS.iadd X0.here hx rfl (hb hby own_d8_69) rfl kz) ?_
      show Go p.tables e below P (s₁.setTop (mkF m 70 #[.val (.ref b), .val (.int (0 : Int32)), .val (.int (2 : Int32)), .val (.int key), .val (.int (2 : Int32)), .val (.int (1 : Int32)), .val (.int (1 : Int32)), .val (.int s1)] [(.int ((2 : Int32) + (1 : Int32)))]))
      rw [show ((2 : Int32) + (1 : Int32)) = (3 : Int32) from by decide]
      show Go p.tables e below P (s₁.setTop (mkF m 70 #[.val (.ref b), .val (.int (0 : Int32)), .val (.int (2 : Int32)), .val (.int key), .val (.int (2 : Int32)), .val (.int (1 : Int32)), .val (.int (1 : Int32)), .val (.int s1)] [(.int (3 : Int32))]))
      refine Go.s (fun kz => XS.ineg X0.here hx rfl (hb hby own_d8_70) rfl kz) ?_
      show Go p.tables e below P (s₁.setTop (mkF m 71 #[.val (.ref b), .val (.int (0 : Int32)), .val (.int (2 : Int32)), .val (.int key), .val (.int (2 : Int32)), .val (.int (1 : Int32)), .val (.int (1 : Int32)), .val (.int s1)] [(.int (-(3 : Int32)))]))
      rw [show (-(3 : Int32)) = (-3 : Int32) from by decide]
      show Go p.tables e below P (s₁.setTop (mkF m 71 #[.val (.ref b), .val (.int (0 : Int32)), .val (.int (2 : Int32)), .val (.int key), .val (.int (2 : Int32)), .val (.int (1 : Int32)), .val (.int (1 : Int32)), .val (.int s1)] [(.int (-3 : Int32))]))
      exact Go.retI X0 hx hlk hret (hb hby own_d8_71) (fun U hU hF => hP U _ _ (by rw [hU, e0]; exact ⟨(Or.inl (⟨rfl, hc33, hc33'⟩)), N0, rfl⟩) ⟨hF.1, hF.2.1, hF.2.2.mono (by decide) (by decide)⟩)
    · skip
      refine Go.s (fun kz => XS.icmpYes X0.here hx rfl (pc0 := 33) (pc' := 45) rfl (hb hby own_d8_33) rfl (XT.ii_ge_t hc33') (by decide) (by decide) kz) ?_
      show Go p.tables e below P (s₁.setTop (mkF m 45 #[.val (.ref b), .val (.int (0 : Int32)), .val (.int (2 : Int32)), .val (.int key), .val (.int (1 : Int32)), .val (.int (1 : Int32)), .val (.int (1 : Int32)), .val (.int s1)] []))
      refine Go.s (fun kz => XS.iload X0.here hx rfl (hb hby own_d8_45) rfl kz) ?_
      show Go p.tables e below P (s₁.setTop (mkF m 47 #[.val (.ref b), .val (.int (0 : Int32)), .val (.int (2 : Int32)), .val (.int key), .val (.int (1 : Int32)), .val (.int (1 : Int32)), .val (.int (1 : Int32)), .val (.int s1)] [(.int s1)]))
      refine Go.s (fun kz => XS.iloadN X0.here hx rfl (hb hby own_d8_47) rfl kz) ?_
      show Go p.tables e below P (s₁.setTop (mkF m 48 #[.val (.ref b), .val (.int (0 : Int32)), .val (.int (2 : Int32)), .val (.int key), .val (.int (1 : Int32)), .val (.int (1 : Int32)), .val (.int (1 : Int32)), .val (.int s1)] [(.int key), (.int s1)]))
      by_cases hc48 : key < s1
      · skip
        refine Go.s (fun kz => XS.icmpNo X0.here hx rfl (hb hby own_d8_48) rfl (XT.ii_le_f hc48) kz) ?_
        show Go p.tables e below P (s₁.setTop (mkF m 51 #[.val (.ref b), .val (.int (0 : Int32)), .val (.int (2 : Int32)), .val (.int key), .val (.int (1 : Int32)), .val (.int (1 : Int32)), .val (.int (1 : Int32)), .val (.int s1)] []))
        refine Go.s (fun kz => XS.iload X0.here hx rfl (hb hby own_d8_51) rfl kz) ?_
        show Go p.tables e below P (s₁.setTop (mkF m 53 #[.val (.ref b), .val (.int (0 : Int32)), .val (.int (2 : Int32)), .val (.int key), .val (.int (1 : Int32)), .val (.int (1 : Int32)), .val (.int (1 : Int32)), .val (.int s1)] [(.int (1 : Int32))]))
        refine Go.s (fun kz => XS.iconst X0.here hx rfl (hb hby own_d8_53) kz) ?_
        show Go p.tables e below P (s₁.setTop (mkF m 54 #[.val (.ref b), .val (.int (0 : Int32)), .val (.int (2 : Int32)), .val (.int key), .val (.int (1 : Int32)), .val (.int (1 : Int32)), .val (.int (1 : Int32)), .val (.int s1)] [(.int (1 : Int32)), (.int (1 : Int32))]))
        refine Go.s (fun kz => XS.isub X0.here hx rfl (hb hby own_d8_54) rfl kz) ?_
        show Go p.tables e below P (s₁.setTop (mkF m 55 #[.val (.ref b), .val (.int (0 : Int32)), .val (.int (2 : Int32)), .val (.int key), .val (.int (1 : Int32)), .val (.int (1 : Int32)), .val (.int (1 : Int32)), .val (.int s1)] [(.int ((1 : Int32) - (1 : Int32)))]))
        rw [show ((1 : Int32) - (1 : Int32)) = (0 : Int32) from by decide]
        show Go p.tables e below P (s₁.setTop (mkF m 55 #[.val (.ref b), .val (.int (0 : Int32)), .val (.int (2 : Int32)), .val (.int key), .val (.int (1 : Int32)), .val (.int (1 : Int32)), .val (.int (1 : Int32)), .val (.int s1)] [(.int (0 : Int32))]))
        refine Go.s (fun kz => XS.istore X0.here hx rfl (hb hby own_d8_55) rfl (l' := #[.val (.ref b), .val (.int (0 : Int32)), .val (.int (2 : Int32)), .val (.int key), .val (.int (1 : Int32)), .val (.int (0 : Int32)), .val (.int (1 : Int32)), .val (.int s1)]) rfl kz) ?_
        show Go p.tables e below P (s₁.setTop (mkF m 57 #[.val (.ref b), .val (.int (0 : Int32)), .val (.int (2 : Int32)), .val (.int key), .val (.int (1 : Int32)), .val (.int (0 : Int32)), .val (.int (1 : Int32)), .val (.int s1)] []))
        refine Go.s (fun kz => XS.goto X0.here hx rfl (pc0 := 57) (pc' := 63) rfl (hb hby own_d8_57) (by decide) (by decide) kz) ?_
        show Go p.tables e below P (s₁.setTop (mkF m 63 #[.val (.ref b), .val (.int (0 : Int32)), .val (.int (2 : Int32)), .val (.int key), .val (.int (1 : Int32)), .val (.int (0 : Int32)), .val (.int (1 : Int32)), .val (.int s1)] []))
        refine Go.s (fun kz => XS.goto X0.here hx rfl (pc0 := 63) (pc' := 8) rfl (hb hby own_d8_63) (by decide) (by decide) kz) ?_
        show Go p.tables e below P (s₁.setTop (mkF m 8 #[.val (.ref b), .val (.int (0 : Int32)), .val (.int (2 : Int32)), .val (.int key), .val (.int (1 : Int32)), .val (.int (0 : Int32)), .val (.int (1 : Int32)), .val (.int s1)] []))
        refine Go.s (fun kz => XS.iload X0.here hx rfl (hb hby own_d8_8) rfl kz) ?_
        show Go p.tables e below P (s₁.setTop (mkF m 10 #[.val (.ref b), .val (.int (0 : Int32)), .val (.int (2 : Int32)), .val (.int key), .val (.int (1 : Int32)), .val (.int (0 : Int32)), .val (.int (1 : Int32)), .val (.int s1)] [(.int (1 : Int32))]))
        refine Go.s (fun kz => XS.iload X0.here hx rfl (hb hby own_d8_10) rfl kz) ?_
        show Go p.tables e below P (s₁.setTop (mkF m 12 #[.val (.ref b), .val (.int (0 : Int32)), .val (.int (2 : Int32)), .val (.int key), .val (.int (1 : Int32)), .val (.int (0 : Int32)), .val (.int (1 : Int32)), .val (.int s1)] [(.int (0 : Int32)), (.int (1 : Int32))]))
        refine Go.s (fun kz => XS.icmpYes X0.here hx rfl (pc0 := 12) (pc' := 66) rfl (hb hby own_d8_12) rfl (XT.ii_gt_t (by decide)) (by decide) (by decide) kz) ?_
        show Go p.tables e below P (s₁.setTop (mkF m 66 #[.val (.ref b), .val (.int (0 : Int32)), .val (.int (2 : Int32)), .val (.int key), .val (.int (1 : Int32)), .val (.int (0 : Int32)), .val (.int (1 : Int32)), .val (.int s1)] []))
        refine Go.s (fun kz => XS.iload X0.here hx rfl (hb hby own_d8_66) rfl kz) ?_
        show Go p.tables e below P (s₁.setTop (mkF m 68 #[.val (.ref b), .val (.int (0 : Int32)), .val (.int (2 : Int32)), .val (.int key), .val (.int (1 : Int32)), .val (.int (0 : Int32)), .val (.int (1 : Int32)), .val (.int s1)] [(.int (1 : Int32))]))
        refine Go.s (fun kz => XS.iconst X0.here hx rfl (hb hby own_d8_68) kz) ?_
        show Go p.tables e below P (s₁.setTop (mkF m 69 #[.val (.ref b), .val (.int (0 : Int32)), .val (.int (2 : Int32)), .val (.int key), .val (.int (1 : Int32)), .val (.int (0 : Int32)), .val (.int (1 : Int32)), .val (.int s1)] [(.int (1 : Int32)), (.int (1 : Int32))]))
        refine Go.s (fun kz => XS.iadd X0.here hx rfl (hb hby own_d8_69) rfl kz) ?_
        show Go p.tables e below P (s₁.setTop (mkF m 70 #[.val (.ref b), .val (.int (0 : Int32)), .val (.int (2 : Int32)), .val (.int key), .val (.int (1 : Int32)), .val (.int (0 : Int32)), .val (.int (1 : Int32)), .val (.int s1)] [(.int ((1 : Int32) + (1 : Int32)))]))
        rw [show ((1 : Int32) + (1 : Int32)) = (2 : Int32) from by decide]
        show Go p.tables e below P (s₁.setTop (mkF m 70 #[.val (.ref b), .val (.int (0 : Int32)), .val (.int (2 : Int32)), .val (.int key), .val (.int (1 : Int32)), .val (.int (0 : Int32)), .val (.int (1 : Int32)), .val (.int s1)] [(.int (2 : Int32))]))
        refine Go.s (fun kz => XS.ineg X0.here hx rfl (hb hby own_d8_70) rfl kz) ?_
        show Go p.tables e below P (s₁.setTop (mkF m 71 #[.val (.ref b), .val (.int (0 : Int32)), .val (.int (2 : Int32)), .val (.int key), .val (.int (1 : Int32)), .val (.int (0 : Int32)), .val (.int (1 : Int32)), .val (.int s1)] [(.int (-(2 : Int32)))]))
        rw [show (-(2 : Int32)) = (-2 : Int32) from by decide]
        show Go p.tables e below P (s₁.setTop (mkF m 71 #[.val (.ref b), .val (.int (0 : Int32)), .val (.int (2 : Int32)), .val (.int key), .val (.int (1 : Int32)), .val (.int (0 : Int32)), .val (.int (1 : Int32)), .val (.int s1)] [(.int (-2 : Int32))]))
        exact Go.retI X0 hx hlk hret (hb hby own_d8_71) (fun U hU hF => hP U _ _ (by rw [hU, e0]; exact ⟨(Or.inr (Or.inl (⟨rfl, hc33, hc33', hc48⟩))), N0, rfl⟩) ⟨hF.1, hF.2.1, hF.2.2.mono (by decide) (by decide)⟩)
      · skip
        refine Go.s (fun kz => XS.icmpYes X0.here hx rfl (pc0 := 48) (pc' := 60) rfl (hb hby own_d8_48) rfl (XT.ii_le_t hc48) (by decide) (by decide) kz) ?_
        show Go p.tables e below P (s₁.setTop (mkF m 60 #[.val (.ref b), .val (.int (0 : Int32)), .val (.int (2 : Int32)), .val (.int key), .val (.int (1 : Int32)), .val (.int (1 : Int32)), .val (.int (1 : Int32)), .val (.int s1)] []))
        refine Go.s (fun kz => XS.iload X0.here hx rfl (hb hby own_d8_60) rfl kz) ?_
        show Go p.tables e below P (s₁.setTop (mkF m 62 #[.val (.ref b), .val (.int (0 : Int32)), .val (.int (2 : Int32)), .val (.int key), .val (.int (1 : Int32)), .val (.int (1 : Int32)), .val (.int (1 : Int32)), .val (.int s1)] [(.int (1 : Int32))]))
        exact Go.retI X0 hx hlk hret (hb hby own_d8_62) (fun U hU hF => hP U _ _ (by rw [hU, e0]; exact ⟨(Or.inr (Or.inr (Or.inl (⟨rfl, hc33, hc33', hc48⟩)))), N0, rfl⟩) ⟨hF.1, hF.2.1, hF.2.2.mono (by decide) (by decide)⟩)
  · skip
    refine Go.s (fun kz => XS.icmpYes X0.here hx rfl (pc0 := 33) (pc' := 45) rfl (hb hby own_d8_33) rfl (XT.ii_ge_t hc33) (by decide) (by decide) kz) ?_
    show Go p.tables e below P (s₁.setTop (mkF m 45 #[.val (.ref b), .val (.int (0 : Int32)), .val (.int (2 : Int32)), .val (.int key), .val (.int (0 : Int32)), .val (.int (1 : Int32)), .val (.int (0 : Int32)), .val (.int s0)] []))
    refine Go.s (fun kz => XS.iload X0.here hx rfl (hb hby own_d8_45) rfl kz) ?_
    show Go p.tables e below P (s₁.setTop (mkF m 47 #[.val (.ref b), .val (.int (0 : Int32)), .val (.int (2 : Int32)), .val (.int key), .val (.int (0 : Int32)), .val (.int (1 : Int32)), .val (.int (0 : Int32)), .val (.int s0)] [(.int s0)]))
    refine Go.s (fun kz => XS.iloadN X0.here hx rfl (hb hby own_d8_47) rfl kz) ?_
    show Go p.tables e below P (s₁.setTop (mkF m 48 #[.val (.ref b), .val (.int (0 : Int32)), .val (.int (2 : Int32)), .val (.int key), .val (.int (0 : Int32)), .val (.int (1 : Int32)), .val (.int (0 : Int32)), .val (.int s0)] [(.int key), (.int s0)]))
    by_cases hc48 : key < s0
    · skip
      refine Go.s (fun kz => XS.icmpNo X0.here hx rfl (hb hby own_d8_48) rfl (XT.ii_le_f hc48) kz) ?_
      show Go p.tables e below P (s₁.setTop (mkF m 51 #[.val (.ref b), .val (.int (0 : Int32)), .val (.int (2 : Int32)), .val (.int key), .val (.int (0 : Int32)), .val (.int (1 : Int32)), .val (.int (0 : Int32)), .val (.int s0)] []))
      refine Go.s (fun kz => XS.iload X0.here hx rfl (hb hby own_d8_51) rfl kz) ?_
      show Go p.tables e below P (s₁.setTop (mkF m 53 #[.val (.ref b), .val (.int (0 : Int32)), .val (.int (2 : Int32)), .val (.int key), .val (.int (0 : Int32)), .val (.int (1 : Int32)), .val (.int (0 : Int32)), .val (.int s0)] [(.int (0 : Int32))]))
      refine Go.s (fun kz => XS.iconst X0.here hx rfl (hb hby own_d8_53) kz) ?_
      show Go p.tables e below P (s₁.setTop (mkF m 54 #[.val (.ref b), .val (.int (0 : Int32)), .val (.int (2 : Int32)), .val (.int key), .val (.int (0 : Int32)), .val (.int (1 : Int32)), .val (.int (0 : Int32)), .val (.int s0)] [(.int (1 : Int32)), (.int (0 : Int32))]))
      refine Go.s (fun kz => XS.isub X0.here hx rfl (hb hby own_d8_54) rfl kz) ?_
      show Go p.tables e below P (s₁.setTop (mkF m 55 #[.val (.ref b), .val (.int (0 : Int32)), .val (.int (2 : Int32)), .val (.int key), .val (.int (0 : Int32)), .val (.int (1 : Int32)), .val (.int (0 : Int32)), .val (.int s0)] [(.int ((0 : Int32) - (1 : Int32)))]))
      rw [show ((0 : Int32) - (1 : Int32)) = (-1 : Int32) from by decide]
      show Go p.tables e below P (s₁.setTop (mkF m 55 #[.val (.ref b), .val (.int (0 : Int32)), .val (.int (2 : Int32)), .val (.int key), .val (.int (0 : Int32)), .val (.int (1 : Int32)), .val (.int (0 : Int32)), .val (.int s0)] [(.int (-1 : Int32))]))
      refine Go.s (fun kz => XS.istore X0.here hx rfl (hb hby own_d8_55) rfl (l' := #[.val (.ref b), .val (.int (0 : Int32)), .val (.int (2 : Int32)), .val (.int key), .val (.int (0 : Int32)), .val (.int (-1 : Int32)), .val (.int (0 : Int32)), .val (.int s0)]) rfl kz) ?_
      show Go p.tables e below P (s₁.setTop (mkF m 57 #[.val (.ref b), .val (.int (0 : Int32)), .val (.int (2 : Int32)), .val (.int key), .val (.int (0 : Int32)), .val (.int (-1 : Int32)), .val (.int (0 : Int32)), .val (.int s0)] []))
      refine Go.s (fun kz => XS.goto X0.here hx rfl (pc0 := 57) (pc' := 63) rfl (hb hby own_d8_57) (by decide) (by decide) kz) ?_
      show Go p.tables e below P (s₁.setTop (mkF m 63 #[.val (.ref b), .val (.int (0 : Int32)), .val (.int (2 : Int32)), .val (.int key), .val (.int (0 : Int32)), .val (.int (-1 : Int32)), .val (.int (0 : Int32)), .val (.int s0)] []))
      refine Go.s (fun kz => XS.goto X0.here hx rfl (pc0 := 63) (pc' := 8) rfl (hb hby own_d8_63) (by decide) (by decide) kz) ?_
      show Go p.tables e below P (s₁.setTop (mkF m 8 #[.val (.ref b), .val (.int (0 : Int32)), .val (.int (2 : Int32)), .val (.int key), .val (.int (0 : Int32)), .val (.int (-1 : Int32)), .val (.int (0 : Int32)), .val (.int s0)] []))
      refine Go.s (fun kz => XS.iload X0.here hx rfl (hb hby own_d8_8) rfl kz) ?_
      show Go p.tables e below P (s₁.setTop (mkF m 10 #[.val (.ref b), .val (.int (0 : Int32)), .val (.int (2 : Int32)), .val (.int key), .val (.int (0 : Int32)), .val (.int (-1 : Int32)), .val (.int (0 : Int32)), .val (.int s0)] [(.int (0 : Int32))]))
      refine Go.s (fun kz => XS.iload X0.here hx rfl (hb hby own_d8_10) rfl kz) ?_
      show Go p.tables e below P (s₁.setTop (mkF m 12 #[.val (.ref b), .val (.int (0 : Int32)), .val (.int (2 : Int32)), .val (.int key), .val (.int (0 : Int32)), .val (.int (-1 : Int32)), .val (.int (0 : Int32)), .val (.int s0)] [(.int (-1 : Int32)), (.int (0 : Int32))]))
      refine Go.s (fun kz => XS.icmpYes X0.here hx rfl (pc0 := 12) (pc' := 66) rfl (hb hby own_d8_12) rfl (XT.ii_gt_t (by decide)) (by decide) (by decide) kz) ?_
      show Go p.tables e below P (s₁.setTop (mkF m 66 #[.val (.ref b), .val (.int (0 : Int32)), .val (.int (2 : Int32)), .val (.int key), .val (.int (0 : Int32)), .val (.int (-1 : Int32)), .val (.int (0 : Int32)), .val (.int s0)] []))
      refine Go.s (fun kz => XS.iload X0.here hx rfl (hb hby own_d8_66) rfl kz) ?_
      show Go p.tables e below P (s₁.setTop (mkF m 68 #[.val (.ref b), .val (.int (0 : Int32)), .val (.int (2 : Int32)), .val (.int key), .val (.int (0 : Int32)), .val (.int (-1 : Int32)), .val (.int (0 : Int32)), .val (.int s0)] [(.int (0 : Int32))]))
      refine Go.s (fun kz => XS.iconst X0.here hx rfl (hb hby own_d8_68) kz) ?_
      show Go p.tables e below P (s₁.setTop (mkF m 69 #[.val (.ref b), .val (.int (0 : Int32)), .val (.int (2 : Int32)), .val (.int key), .val (.int (0 : Int32)), .val (.int (-1 : Int32)), .val (.int (0 : Int32)), .val (.int s0)] [(.int (1 : Int32)), (.int (0 : Int32))]))
      refine Go.s (fun kz => XS.iadd X0.here hx rfl (hb hby own_d8_69) rfl kz) ?_
      show Go p.tables e below P (s₁.setTop (mkF m 70 #[.val (.ref b), .val (.int (0 : Int32)), .val (.int (2 : Int32)), .val (.int key), .val (.int (0 : Int32)), .val (.int (-1 : Int32)), .val (.int (0 : Int32)), .val (.int s0)] [(.int ((0 : Int32) + (1 : Int32)))]))
      rw [show ((0 : Int32) + (1 : Int32)) = (1 : Int32) from by decide]
      show Go p.tables e below P (s₁.setTop (mkF m 70 #[.val (.ref b), .val (.int (0 : Int32)), .val (.int (2 : Int32)), .val (.int key), .val (.int (0 : Int32)), .val (.int (-1 : Int32)), .val (.int (0 : Int32)), .val (.int s0)] [(.int (1 : Int32))]))
      refine Go.s (fun kz => XS.ineg X0.here hx rfl (hb hby own_d8_70) rfl kz) ?_
      show Go p.tables e below P (s₁.setTop (mkF m 71 #[.val (.ref b), .val (.int (0 : Int32)), .val (.int (2 : Int32)), .val (.int key), .val (.int (0 : Int32)), .val (.int (-1 : Int32)), .val (.int (0 : Int32)), .val (.int s0)] [(.int (-(1 : Int32)))]))
      rw [show (-(1 : Int32)) = (-1 : Int32) from by decide]
      show Go p.tables e below P (s₁.setTop (mkF m 71 #[.val (.ref b), .val (.int (0 : Int32)), .val (.int (2 : Int32)), .val (.int key), .val (.int (0 : Int32)), .val (.int (-1 : Int32)), .val (.int (0 : Int32)), .val (.int s0)] [(.int (-1 : Int32))]))
      exact Go.retI X0 hx hlk hret (hb hby own_d8_71) (fun U hU hF => hP U _ _ (by rw [hU, e0]; exact ⟨(Or.inr (Or.inr (Or.inr (Or.inl (⟨rfl, hc33, hc48⟩))))), N0, rfl⟩) ⟨hF.1, hF.2.1, hF.2.2.mono (by decide) (by decide)⟩)
    · skip
      refine Go.s (fun kz => XS.icmpYes X0.here hx rfl (pc0 := 48) (pc' := 60) rfl (hb hby own_d8_48) rfl (XT.ii_le_t hc48) (by decide) (by decide) kz) ?_
      show Go p.tables e below P (s₁.setTop (mkF m 60 #[.val (.ref b), .val (.int (0 : Int32)), .val (.int (2 : Int32)), .val (.int key), .val (.int (0 : Int32)), .val (.int (1 : Int32)), .val (.int (0 : Int32)), .val (.int s0)] []))
      refine Go.s (fun kz => XS.iload X0.here hx rfl (hb hby own_d8_60) rfl kz) ?_
      show Go p.tables e below P (s₁.setTop (mkF m 62 #[.val (.ref b), .val (.int (0 : Int32)), .val (.int (2 : Int32)), .val (.int key), .val (.int (0 : Int32)), .val (.int (1 : Int32)), .val (.int (0 : Int32)), .val (.int s0)] [(.int (0 : Int32))]))
      exact Go.retI X0 hx hlk hret (hb hby own_d8_62) (fun U hU hF => hP U _ _ (by rw [hU, e0]; exact ⟨(Or.inr (Or.inr (Or.inr (Or.inr (⟨rfl, hc33, hc48⟩))))), N0, rfl⟩) ⟨hF.1, hF.2.1, hF.2.2.mono (by decide) (by decide)⟩)
theorem own_ef7_2 (m : MethodId) (b : Addr) (key : Int32) : entryFrame m #[(.ref b), (.int key)] 2 = mkF m 0 #[.val (.ref b), .val (.int key)] [] := by
  (first | (simp [entryFrame, mkF, argsToLocals, Value.category]; done) | rfl)
set_option maxRecDepth 65536 in
set_option maxHeartbeats 40000000 in
theorem own_rm7_2 (l : Launch) (Z : State) (a0 : Array Value) (hw : ∀ d ∈ tables_1, d.before a0 Z = true) (ws : List Jvm.Cond) (b kk : Nat) (key s0 s1 : Int32) (h0 : Heap) (n0 : Nat) (Z0 : n0 ≤ h0.size) (V_b : Arv Z h0 b kk .int 2 [.int s0, .int s1] (.int (0 : Int32))) :
    Con l Z (⟨"java/util/Arrays", "binarySearch", "([II)I"⟩ : MethodName) jdk_65_method_57_code 2 (some .int) ws ({ frames := 1, cells := 0, slots := 0, locals := 19 } : Room) #[(.ref b), (.int key)] h0 (fun v h L => ((v = some (.int (-3 : Int32)) ∧ s0 < key ∧ s1 < key) ∨ (v = some (.int (-2 : Int32)) ∧ s0 < key ∧ ¬ s1 < key ∧ key < s1) ∨ (v = some (.int (1 : Int32)) ∧ s0 < key ∧ ¬ s1 < key ∧ ¬ key < s1) ∨ (v = some (.int (-1 : Int32)) ∧ ¬ s0 < key ∧ key < s0) ∨ (v = some (.int (0 : Int32)) ∧ ¬ s0 < key ∧ ¬ key < s0)) ∧ Fr n0 L ∧ h = h0) := by
  refine Con.intro (plainFor_of_name own_pn_1) ?_
  intro p e s m below meth c s₁ P hx hby hml hown hnm hret hlk hZ X0 e0 hP
  have N0 := Fr.nil n0
  have hown : s.vm.findClass "java/util/Arrays" = some m.cls := hown
  refine Go.cast (own_ef7_2 m b key) ?_
  show Go p.tables e below P (s₁.setTop (mkF m 0 #[.val (.ref b), .val (.int key)] []))
  refine Go.s (fun kz => XS.aloadN X0.here hx rfl (hb hby own_d7_0) rfl rfl kz) ?_
  show Go p.tables e below P (s₁.setTop (mkF m 1 #[.val (.ref b), .val (.int key)] [(.ref b)]))
  refine Go.s (fun kz => XS.iconst X0.here hx rfl (hb hby own_d7_1) kz) ?_
  show Go p.tables e below P (s₁.setTop (mkF m 2 #[.val (.ref b), .val (.int key)] [(.int (0 : Int32)), (.ref b)]))
  refine Go.s (fun kz => XS.aloadN X0.here hx rfl (hb hby own_d7_2) rfl rfl kz) ?_
  show Go p.tables e below P (s₁.setTop (mkF m 3 #[.val (.ref b), .val (.int key)] [(.ref b), (.int (0 : Int32)), (.ref b)]))
  obtain ⟨cl1, Ar1, q1, Sz1, Ng1, Ha1, Ft1⟩ := id V_b
  refine Go.s (fun {t} kz => X0.arraylength hx (by rw [e0]; exact Ar1.1) (State.isArrayOf_alike hZ.alike Ar1.2.1) (g := (mkF m 3 #[.val (.ref b), .val (.int key)] [(.ref b), (.int (0 : Int32)), (.ref b)])) rfl rfl (hb hby own_d7_3) _ kz) ?_
  rw [len_of Sz1 Ng1]
  show Go p.tables e below P (s₁.setTop (mkF m 4 #[.val (.ref b), .val (.int key)] [(.int (2 : Int32)), (.int (0 : Int32)), (.ref b)]))
  refine Go.s (fun kz => XS.iloadN X0.here hx rfl (hb hby own_d7_4) rfl kz) ?_
  show Go p.tables e below P (s₁.setTop (mkF m 5 #[.val (.ref b), .val (.int key)] [(.int key), (.int (2 : Int32)), (.int (0 : Int32)), (.ref b)]))
  obtain ⟨v2, T2, L2, X2, Q2, st2⟩ := Con.static (own_rm8_2 l Z a0 hw [] b kk key s0 s1 h0 n0 Z0 V_b) X0 hx hZ (W := 0) hown (hw _ (List.mem_of_getElem? (i := 35) rfl)) (hw _ (List.mem_of_getElem? (i := 36) rfl)) (hw _ (List.mem_of_getElem? (i := 33) rfl)) (hw _ (List.mem_of_getElem? (i := 37) rfl)) (by decide) (by decide) (by decide) (by decide) (by decide) e0 (g := (mkF m 5 #[.val (.ref b), .val (.int key)] [(.int key), (.int (2 : Int32)), (.int (0 : Int32)), (.ref b)])) rfl (by rw [hml]; rfl) (argsL := [(.ref b), (.int (0 : Int32)), (.int (2 : Int32)), (.int key)]) (rest := []) rfl (lenOf own_pd_0 rfl) rfl (by show 2 * 0 + _ ≤ _; exact Nat.le_of_eq rfl) (hb hby own_d7_5)
  obtain ⟨hd2, Nq2, e2⟩ := Q2
  have N2 := Fr.app N0 Nq2
  rcases hd2 with ⟨rfl, k0, k1⟩ | ⟨rfl, k0, k1, k2⟩ | ⟨rfl, k0, k1, k2⟩ | ⟨rfl, k0, k1⟩ | ⟨rfl, k0, k1⟩
  · skip
    refine Go.s (fun {t} => st2) ?_
    show Go p.tables e below P (T2.setTop (mkF m 8 #[.val (.ref b), .val (.int key)] [(.int (-3 : Int32))]))
    exact Go.retI X2 hx hlk hret (hb hby own_d7_8) (fun U hU hF => hP U _ _ (by rw [hU, e2]; exact ⟨(Or.inl (⟨rfl, k0, k1⟩)), N2, rfl⟩) ⟨hF.1, hF.2.1, hF.2.2.mono (by decide) (by decide)⟩)
  · skip
    refine Go.s (fun {t} => st2) ?_
    show Go p.tables e below P (T2.setTop (mkF m 8 #[.val (.ref b), .val (.int key)] [(.int (-2 : Int32))]))
    exact Go.retI X2 hx hlk hret (hb hby own_d7_8) (fun U hU hF => hP U _ _ (by rw [hU, e2]; exact ⟨(Or.inr (Or.inl (⟨rfl, k0, k1, k2⟩))), N2, rfl⟩) ⟨hF.1, hF.2.1, hF.2.2.mono (by decide) (by decide)⟩)
  · skip
    refine Go.s (fun {t} => st2) ?_
    show Go p.tables e below P (T2.setTop (mkF m 8 #[.val (.ref b), .val (.int key)] [(.int (1 : Int32))]))
    exact Go.retI X2 hx hlk hret (hb hby own_d7_8) (fun U hU hF => hP U _ _ (by rw [hU, e2]; exact ⟨(Or.inr (Or.inr (Or.inl (⟨rfl, k0, k1, k2⟩)))), N2, rfl⟩) ⟨hF.1, hF.2.1, hF.2.2.mono (by decide) (by decide)⟩)
  · skip
    refine Go.s (fun {t} => st2) ?_
    show Go p.tables e below P (T2.setTop (mkF m 8 #[.val (.ref b), .val (.int key)] [(.int (-1 : Int32))]))
    exact Go.retI X2 hx hlk hret (hb hby own_d7_8) (fun U hU hF => hP U _ _ (by rw [hU, e2]; exact ⟨(Or.inr (Or.inr (Or.inr (Or.inl (⟨rfl, k0, k1⟩))))), N2, rfl⟩) ⟨hF.1, hF.2.1, hF.2.2.mono (by decide) (by decide)⟩)
  · skip
    refine Go.s (fun {t} => st2) ?_
    show Go p.tables e below P (T2.setTop (mkF m 8 #[.val (.ref b), .val (.int key)] [(.int (0 : Int32))]))
    exact Go.retI X2 hx hlk hret (hb hby own_d7_8) (fun U hU hF => hP U _ _ (by rw [hU, e2]; exact ⟨(Or.inr (Or.inr (Or.inr (Or.inr (⟨rfl, k0, k1⟩))))), N2, rfl⟩) ⟨hF.1, hF.2.1, hF.2.2.mono (by decide) (by decide)⟩)
theorem own_ef6_2 (m : MethodId) (a : Addr) (x : Int64) : entryFrame m #[(.ref a), (.long x)] 4 = mkF m 0 #[.val (.ref a), .val (.long x), .second, .unset] [] := by
  (first | (simp [entryFrame, mkF, argsToLocals, Value.category]; done) | rfl)
set_option maxRecDepth 65536 in
set_option maxHeartbeats 40000000 in
theorem own_rm6_2 (l : Launch) (Z : State) (a0 : Array Value) (hw : ∀ d ∈ tables_1, d.before a0 Z = true) (ws : List Jvm.Cond) (a b kk : Nat) (x : Int64) (s0 s1 : Int32) (h0 : Heap) (n0 : Nat) (Z0 : n0 ≤ h0.size) (V_b : Arv Z h0 b kk .int 2 [.int s0, .int s1] (.int (0 : Int32))) (F_s : Fld Z h0 a "com/example/tempo_feed/tempofeed/core/DailyPolls" "secondsOfDay" "[I" (.ref b)) :
    Con l Z (⟨"com/example/tempo_feed/tempofeed/core/DailyPolls", "indexAtOrAfter", "(J)I"⟩ : MethodName) prog_13_method_5_code 4 (some .int) ws ({ frames := 2, cells := 0, slots := 0, locals := 32 } : Room) #[(.ref a), (.long x)] h0 (fun v h L => ((v = some (.int (2 : Int32)) ∧ s0 < x.toInt32 ∧ s1 < x.toInt32) ∨ (v = some (.int (1 : Int32)) ∧ s0 < x.toInt32 ∧ ¬ s1 < x.toInt32 ∧ x.toInt32 < s1) ∨ (v = some (.int (1 : Int32)) ∧ s0 < x.toInt32 ∧ ¬ s1 < x.toInt32 ∧ ¬ x.toInt32 < s1) ∨ (v = some (.int (0 : Int32)) ∧ ¬ s0 < x.toInt32 ∧ x.toInt32 < s0) ∨ (v = some (.int (0 : Int32)) ∧ ¬ s0 < x.toInt32 ∧ ¬ x.toInt32 < s0)) ∧ Fr n0 L ∧ h = h0) := by
  refine Con.intro (plainFor_of_name own_pn_0) ?_
  intro p e s m below meth c s₁ P hx hby hml hown hnm hret hlk hZ X0 e0 hP
  have N0 := Fr.nil n0
  have hown : s.vm.findClass "com/example/tempo_feed/tempofeed/core/DailyPolls" = some m.cls := hown
  refine Go.cast (own_ef6_2 m a x) ?_
  show Go p.tables e below P (s₁.setTop (mkF m 0 #[.val (.ref a), .val (.long x), .second, .unset] []))
  refine Go.s (fun kz => XS.aloadN X0.here hx rfl (hb hby own_d6_0) rfl rfl kz) ?_
  show Go p.tables e below P (s₁.setTop (mkF m 1 #[.val (.ref a), .val (.long x), .second, .unset] [(.ref a)]))
  obtain ⟨T1, X1, e1, st1⟩ := getF X0 hx hZ hown (host := "") (Or.inl (hw _ (List.mem_of_getElem? (i := 12) rfl))) Via.refl e0 F_s (g := (mkF m 1 #[.val (.ref a), .val (.long x), .second, .unset] [(.ref a)])) rfl rfl (hb hby own_d6_1)
  refine Go.s (fun {t} => st1 t) ?_
  show Go p.tables e below P (T1.setTop (mkF m 4 #[.val (.ref a), .val (.long x), .second, .unset] [(.ref b)]))
  refine Go.s (fun kz => XT.lloadN X1.here hx rfl (hb hby own_d6_4) rfl kz) ?_
  show Go p.tables e below P (T1.setTop (mkF m 5 #[.val (.ref a), .val (.long x), .second, .unset] [(.long x), (.ref b)]))
  refine Go.s (fun kz => XT.l2i X1.here hx rfl (hb hby own_d6_5) rfl kz) ?_
  show Go p.tables e below P (T1.setTop (mkF m 6 #[.val (.ref a), .val (.long x), .second, .unset] [(.int x.toInt32), (.ref b)]))
  obtain ⟨v2, T2, L2, X2, Q2, st2⟩ := Con.static (own_rm7_2 l Z a0 hw [] b kk x.toInt32 s0 s1 h0 n0 Z0 V_b) X1 hx hZ (W := 0) hown (hw _ (List.mem_of_getElem? (i := 31) rfl)) (hw _ (List.mem_of_getElem? (i := 32) rfl)) (hw _ (List.mem_of_getElem? (i := 33) rfl)) (hw _ (List.mem_of_getElem? (i := 34) rfl)) (by decide) (by decide) (by decide) (by decide) (by decide) e1 (g := (mkF m 6 #[.val (.ref a), .val (.long x), .second, .unset] [(.int x.toInt32), (.ref b)])) rfl (by rw [hml]; rfl) (argsL := [(.ref b), (.int x.toInt32)]) (rest := []) rfl (lenOf own_pd_1 rfl) rfl (by show 2 * 0 + _ ≤ _; exact Nat.le_of_eq rfl) (hb hby own_d6_6)
  obtain ⟨hd2, Nq2, e2⟩ := Q2
  have N2 := Fr.app N0 Nq2
  rcases hd2 with ⟨rfl, k0, k1⟩ | ⟨rfl, k0, k1, k2⟩ | ⟨rfl, k0, k1, k2⟩ | ⟨rfl, k0, k1⟩ | ⟨rfl, k0, k1⟩
  · skip
    refine Go.s (fun {t} => st2) ?_
    show Go p.tables e below P (T2.setTop (mkF m 9 #[.val (.ref a), .val (.long x), .second, .unset] [(.int (-3 : Int32))]))
    refine Go.s (fun kz => XS.istoreN X2.here hx rfl (hb hby own_d6_9) rfl (l' := #[.val (.ref a), .val (.long x), .second, .val (.int (-3 : Int32))]) rfl kz) ?_
    show Go p.tables e below P (T2.setTop (mkF m 10 #[.val (.ref a), .val (.long x), .second, .val (.int (-3 : Int32))] []))
    refine Go.s (fun kz => XS.iloadN X2.here hx rfl (hb hby own_d6_10) rfl kz) ?_
    show Go p.tables e below P (T2.setTop (mkF m 11 #[.val (.ref a), .val (.long x), .second, .val (.int (-3 : Int32))] [(.int (-3 : Int32))]))
    refine Go.s (fun kz => XS.ifYes X2.here hx rfl (pc0 := 11) (pc' := 18) rfl (hb hby own_d6_11) rfl (XT.i0_lt_t (by decide)) (by decide) (by decide) kz) ?_
    show Go p.tables e below P (T2.setTop (mkF m 18 #[.val (.ref a), .val (.long x), .second, .val (.int (-3 : Int32))] []))
    refine Go.s (fun kz => XS.iloadN X2.here hx rfl (hb hby own_d6_18) rfl kz) ?_
    show Go p.tables e below P (T2.setTop (mkF m 19 #[.val (.ref a), .val (.long x), .second, .val (.int (-3 : Int32))] [(.int (-3 : Int32))]))
    refine Go.s (fun kz => XS.ineg X2.here hx rfl (hb hby own_d6_19) rfl kz) ?_
    show Go p.tables e below P (T2.setTop (mkF m 20 #[.val (.ref a), .val (.long x), .second, .val (.int (-3 : Int32))] [(.int (-(-3 : Int32)))]))
    rw [show (-(-3 : Int32)) = (3 : Int32) from by decide]
    show Go p.tables e below P (T2.setTop (mkF m 20 #[.val (.ref a), .val (.long x), .second, .val (.int (-3 : Int32))] [(.int (3 : Int32))]))
    refine Go.s (fun kz => XS.iconst X2.here hx rfl (hb hby own_d6_20) kz) ?_
    show Go p.tables e below P (T2.setTop (mkF m 21 #[.val (.ref a), .val (.long x), .second, .val (.int (-3 : Int32))] [(.int (1 : Int32)), (.int (3 : Int32))]))
    refine Go.s (fun kz => XS.isub X2.here hx rfl (hb hby own_d6_21) rfl kz) ?_
    show Go p.tables e below P (T2.setTop (mkF m 22 #[.val (.ref a), .val (.long x), .second, .val (.int (-3 : Int32))] [(.int ((3 : Int32) - (1 : Int32)))]))
    rw [show ((3 : Int32) - (1 : Int32)) = (2 : Int32) from by decide]
    show Go p.tables e below P (T2.setTop (mkF m 22 #[.val (.ref a), .val (.long x), .second, .val (.int (-3 : Int32))] [(.int (2 : Int32))]))
    exact Go.retI X2 hx hlk hret (hb hby own_d6_22) (fun U hU hF => hP U _ _ (by rw [hU, e2]; exact ⟨(Or.inl (⟨rfl, k0, k1⟩)), N2, rfl⟩) ⟨hF.1, hF.2.1, hF.2.2.mono (by decide) (by decide)⟩)
  · skip
    refine Go.s (fun {t} => st2) ?_
    show Go p.tables e below P (T2.setTop (mkF m 9 #[.val (.ref a), .val (.long x), .second, .unset] [(.int (-2 : Int32))]))
    refine Go.s (fun kz => XS.istoreN X2.here hx rfl (hb hby own_d6_9) rfl (l' := #[.val (.ref a), .val (.long x), .second, .val (.int (-2 : Int32))]) rfl kz) ?_
    show Go p.tables e below P (T2.setTop (mkF m 10 #[.val (.ref a), .val (.long x), .second, .val (.int (-2 : Int32))] []))
    refine Go.s (fun kz => XS.iloadN X2.here hx rfl (hb hby own_d6_10) rfl kz) ?_
    show Go p.tables e below P (T2.setTop (mkF m 11 #[.val (.ref a), .val (.long x), .second, .val (.int (-2 : Int32))] [(.int (-2 : Int32))]))
    refine Go.s (fun kz => XS.ifYes X2.here hx rfl (pc0 := 11) (pc' := 18) rfl (hb hby own_d6_11) rfl (XT.i0_lt_t (by decide)) (by decide) (by decide) kz) ?_
    show Go p.tables e below P (T2.setTop (mkF m 18 #[.val (.ref a), .val (.long x), .second, .val (.int (-2 : Int32))] []))
    refine Go.s (fun kz => XS.iloadN X2.here hx rfl (hb hby own_d6_18) rfl kz) ?_
    show Go p.tables e below P (T2.setTop (mkF m 19 #[.val (.ref a), .val (.long x), .second, .val (.int (-2 : Int32))] [(.int (-2 : Int32))]))
    refine Go.s (fun kz => XS.ineg X2.here hx rfl (hb hby own_d6_19) rfl kz) ?_
    show Go p.tables e below P (T2.setTop (mkF m 20 #[.val (.ref a), .val (.long x), .second, .val (.int (-2 : Int32))] [(.int (-(-2 : Int32)))]))
    rw [show (-(-2 : Int32)) = (2 : Int32) from by decide]
    show Go p.tables e below P (T2.setTop (mkF m 20 #[.val (.ref a), .val (.long x), .second, .val (.int (-2 : Int32))] [(.int (2 : Int32))]))
    refine Go.s (fun kz => XS.iconst X2.here hx rfl (hb hby own_d6_20) kz) ?_
    show Go p.tables e below P (T2.setTop (mkF m 21 #[.val (.ref a), .val (.long x), .second, .val (.int (-2 : Int32))] [(.int (1 : Int32)), (.int (2 : Int32))]))
    refine Go.s (fun kz => XS.isub X2.here hx rfl (hb hby own_d6_21) rfl kz) ?_
    show Go p.tables e below P (T2.setTop (mkF m 22 #[.val (.ref a), .val (.long x), .second, .val (.int (-2 : Int32))] [(.int ((2 : Int32) - (1 : Int32)))]))
    rw [show ((2 : Int32) - (1 : Int32)) = (1 : Int32) from by decide]
    show Go p.tables e below P (T2.setTop (mkF m 22 #[.val (.ref a), .val (.long x), .second, .val (.int (-2 : Int32))] [(.int (1 : Int32))]))
    exact Go.retI X2 hx hlk hret (hb hby own_d6_22) (fun U hU hF => hP U _ _ (by rw [hU, e2]; exact ⟨(Or.inr (Or.inl (⟨rfl, k0, k1, k2⟩))), N2, rfl⟩) ⟨hF.1, hF.2.1, hF.2.2.mono (by decide) (by decide)⟩)
  · skip
    refine Go.s (fun {t} => st2) ?_
    show Go p.tables e below P (T2.setTop (mkF m 9 #[.val (.ref a), .val (.long x), .second, .unset] [(.int (1 : Int32))]))
    refine Go.s (fun kz => XS.istoreN X2.here hx rfl (hb hby own_d6_9) rfl (l' := #[.val (.ref a), .val (.long x), .second, .val (.int (1 : Int32))]) rfl kz) ?_
    show Go p.tables e below P (T2.setTop (mkF m 10 #[.val (.ref a), .val (.long x), .second, .val (.int (1 : Int32))] []))
    refine Go.s (fun kz => XS.iloadN X2.here hx rfl (hb hby own_d6_10) rfl kz) ?_
    show Go p.tables e below P (T2.setTop (mkF m 11 #[.val (.ref a), .val (.long x), .second, .val (.int (1 : Int32))] [(.int (1 : Int32))]))
    refine Go.s (fun kz => XS.ifNo X2.here hx rfl (hb hby own_d6_11) rfl (XT.i0_lt_f (by decide)) kz) ?_
    show Go p.tables e below P (T2.setTop (mkF m 14 #[.val (.ref a), .val (.long x), .second, .val (.int (1 : Int32))] []))
    refine Go.s (fun kz => XS.iloadN X2.here hx rfl (hb hby own_d6_14) rfl kz) ?_
    show Go p.tables e below P (T2.setTop (mkF m 15 #[.val (.ref a), .val (.long x), .second, .val (.int (1 : Int32))] [(.int (1 : Int32))]))
    refine Go.s (fun kz => XS.goto X2.here hx rfl (pc0 := 15) (pc' := 22) rfl (hb hby own_d6_15) (by decide) (by decide) kz) ?_
    show Go p.tables e below P (T2.setTop (mkF m 22 #[.val (.ref a), .val (.long x), .second, .val (.int (1 : Int32))] [(.int (1 : Int32))]))
    exact Go.retI X2 hx hlk hret (hb hby own_d6_22) (fun U hU hF => hP U _ _ (by rw [hU, e2]; exact ⟨(Or.inr (Or.inr (Or.inl (⟨rfl, k0, k1, k2⟩)))), N2, rfl⟩) ⟨hF.1, hF.2.1, hF.2.2.mono (by decide) (by decide)⟩)
  · skip
    refine Go.s (fun {t} => st2) ?_
    show Go p.tables e below P (T2.setTop (mkF m 9 #[.val (.ref a), .val (.long x), .second, .unset] [(.int (-1 : Int32))]))
    refine Go.s (fun kz => XS.istoreN X2.here hx rfl (hb hby own_d6_9) rfl (l' := #[.val (.ref a), .val (.long x), .second, .val (.int (-1 : Int32))]) rfl kz) ?_
    show Go p.tables e below P (T2.setTop (mkF m 10 #[.val (.ref a), .val (.long x), .second, .val (.int (-1 : Int32))] []))
    refine Go.s (fun kz => XS.iloadN X2.here hx rfl (hb hby own_d6_10) rfl kz) ?_
    show Go p.tables e below P (T2.setTop (mkF m 11 #[.val (.ref a), .val (.long x), .second, .val (.int (-1 : Int32))] [(.int (-1 : Int32))]))
    refine Go.s (fun kz => XS.ifYes X2.here hx rfl (pc0 := 11) (pc' := 18) rfl (hb hby own_d6_11) rfl (XT.i0_lt_t (by decide)) (by decide) (by decide) kz) ?_
    show Go p.tables e below P (T2.setTop (mkF m 18 #[.val (.ref a), .val (.long x), .second, .val (.int (-1 : Int32))] []))
    refine Go.s (fun kz => XS.iloadN X2.here hx rfl (hb hby own_d6_18) rfl kz) ?_
    show Go p.tables e below P (T2.setTop (mkF m 19 #[.val (.ref a), .val (.long x), .second, .val (.int (-1 : Int32))] [(.int (-1 : Int32))]))
    refine Go.s (fun kz => XS.ineg X2.here hx rfl (hb hby own_d6_19) rfl kz) ?_
    show Go p.tables e below P (T2.setTop (mkF m 20 #[.val (.ref a), .val (.long x), .second, .val (.int (-1 : Int32))] [(.int (-(-1 : Int32)))]))
    rw [show (-(-1 : Int32)) = (1 : Int32) from by decide]
    show Go p.tables e below P (T2.setTop (mkF m 20 #[.val (.ref a), .val (.long x), .second, .val (.int (-1 : Int32))] [(.int (1 : Int32))]))
    refine Go.s (fun kz => XS.iconst X2.here hx rfl (hb hby own_d6_20) kz) ?_
    show Go p.tables e below P (T2.setTop (mkF m 21 #[.val (.ref a), .val (.long x), .second, .val (.int (-1 : Int32))] [(.int (1 : Int32)), (.int (1 : Int32))]))
    refine Go.s (fun kz => XS.isub X2.here hx rfl (hb hby own_d6_21) rfl kz) ?_
    show Go p.tables e below P (T2.setTop (mkF m 22 #[.val (.ref a), .val (.long x), .second, .val (.int (-1 : Int32))] [(.int ((1 : Int32) - (1 : Int32)))]))
    rw [show ((1 : Int32) - (1 : Int32)) = (0 : Int32) from by decide]
    show Go p.tables e below P (T2.setTop (mkF m 22 #[.val (.ref a), .val (.long x), .second, .val (.int (-1 : Int32))] [(.int (0 : Int32))]))
    exact Go.retI X2 hx hlk hret (hb hby own_d6_22) (fun U hU hF => hP U _ _ (by rw [hU, e2]; exact ⟨(Or.inr (Or.inr (Or.inr (Or.inl (⟨rfl, k0, k1⟩))))), N2, rfl⟩) ⟨hF.1, hF.2.1, hF.2.2.mono (by decide) (by decide)⟩)
  · skip
    refine Go.s (fun {t} => st2) ?_
    show Go p.tables e below P (T2.setTop (mkF m 9 #[.val (.ref a), .val (.long x), .second, .unset] [(.int (0 : Int32))]))
    refine Go.s (fun kz => XS.istoreN X2.here hx rfl (hb hby own_d6_9) rfl (l' := #[.val (.ref a), .val (.long x), .second, .val (.int (0 : Int32))]) rfl kz) ?_
    show Go p.tables e below P (T2.setTop (mkF m 10 #[.val (.ref a), .val (.long x), .second, .val (.int (0 : Int32))] []))
    refine Go.s (fun kz => XS.iloadN X2.here hx rfl (hb hby own_d6_10) rfl kz) ?_
    show Go p.tables e below P (T2.setTop (mkF m 11 #[.val (.ref a), .val (.long x), .second, .val (.int (0 : Int32))] [(.int (0 : Int32))]))
    refine Go.s (fun kz => XS.ifNo X2.here hx rfl (hb hby own_d6_11) rfl (XT.i0_lt_f (by decide)) kz) ?_
    show Go p.tables e below P (T2.setTop (mkF m 14 #[.val (.ref a), .val (.long x), .second, .val (.int (0 : Int32))] []))
    refine Go.s (fun kz => XS.iloadN X2.here hx rfl (hb hby own_d6_14) rfl kz) ?_
    show Go p.tables e below P (T2.setTop (mkF m 15 #[.val (.ref a), .val (.long x), .second, .val (.int (0 : Int32))] [(.int (0 : Int32))]))
    refine Go.s (fun kz => XS.goto X2.here hx rfl (pc0 := 15) (pc' := 22) rfl (hb hby own_d6_15) (by decide) (by decide) kz) ?_
    show Go p.tables e below P (T2.setTop (mkF m 22 #[.val (.ref a), .val (.long x), .second, .val (.int (0 : Int32))] [(.int (0 : Int32))]))
    exact Go.retI X2 hx hlk hret (hb hby own_d6_22) (fun U hU hF => hP U _ _ (by rw [hU, e2]; exact ⟨(Or.inr (Or.inr (Or.inr (Or.inr (⟨rfl, k0, k1⟩))))), N2, rfl⟩) ⟨hF.1, hF.2.1, hF.2.2.mono (by decide) (by decide)⟩)
theorem own_ef3_2 (m : MethodId) (a : Addr) (tt : Int64) : entryFrame m #[(.ref a), (.long tt)] 8 = mkF m 0 #[.val (.ref a), .val (.long tt), .second, .unset, .unset, .unset, .unset, .unset] [] := by
  (first | (simp [entryFrame, mkF, argsToLocals, Value.category]; done) | rfl)
set_option maxRecDepth 65536 in
set_option maxHeartbeats 40000000 in
theorem own_rm3_2 (l : Launch) (Z : State) (a0 : Array Value) (hw : ∀ d ∈ tables_1, d.before a0 Z = true) (ws : List Jvm.Cond) (a b kk : Nat) (tt : Int64) (s0 s1 : Int32) (h0 : Heap) (n0 : Nat) (Z0 : n0 ≤ h0.size) (V_b : Arv Z h0 b kk .int 2 [.int s0, .int s1] (.int (0 : Int32))) (F_s : Fld Z h0 a "com/example/tempo_feed/tempofeed/core/DailyPolls" "secondsOfDay" "[I" (.ref b)) (E_a : Exa Z h0 a "com/example/tempo_feed/tempofeed/core/DailyPolls") :
    Con l Z (⟨"com/example/tempo_feed/tempofeed/core/DailyPolls", "firstAtOrAfter", "(J)J"⟩ : MethodName) prog_13_method_2_code 8 (some .long) ws ({ frames := 3, cells := 0, slots := 0, locals := 47 } : Room) #[(.ref a), (.long tt)] h0 (fun v h L => ((v = some (.long (((own_f4 tt (86400 : Int64)) + (1 : Int64)) * (86400 : Int64) + s0.toInt64)) ∧ s0 < (own_f5 tt 86400).toInt32 ∧ s1 < (own_f5 tt 86400).toInt32) ∨ (v = some (.long ((own_f4 tt (86400 : Int64)) * (86400 : Int64) + s1.toInt64)) ∧ s0 < (own_f5 tt 86400).toInt32 ∧ ¬ s1 < (own_f5 tt 86400).toInt32 ∧ (own_f5 tt 86400).toInt32 < s1) ∨ (v = some (.long ((own_f4 tt (86400 : Int64)) * (86400 : Int64) + s1.toInt64)) ∧ s0 < (own_f5 tt 86400).toInt32 ∧ ¬ s1 < (own_f5 tt 86400).toInt32 ∧ ¬ (own_f5 tt 86400).toInt32 < s1) ∨ (v = some (.long ((own_f4 tt (86400 : Int64)) * (86400 : Int64) + s0.toInt64)) ∧ ¬ s0 < (own_f5 tt 86400).toInt32 ∧ (own_f5 tt 86400).toInt32 < s0) ∨ (v = some (.long ((own_f4 tt (86400 : Int64)) * (86400 : Int64) + s0.toInt64)) ∧ ¬ s0 < (own_f5 tt 86400).toInt32 ∧ ¬ (own_f5 tt 86400).toInt32 < s0)) ∧ Fr n0 L ∧ h = h0) := by
  refine Con.intro (plainFor_of_name own_pn_0) ?_
  intro p e s m below meth c s₁ P hx hby hml hown hnm hret hlk hZ X0 e0 hP
  have N0 := Fr.nil n0
  have hown : s.vm.findClass "com/example/tempo_feed/tempofeed/core/DailyPolls" = some m.cls := hown
  refine Go.cast (own_ef3_2 m a tt) ?_
  show Go p.tables e below P (s₁.setTop (mkF m 0 #[.val (.ref a), .val (.long tt), .second, .unset, .unset, .unset, .unset, .unset] []))
  refine Go.s (fun kz => XT.lloadN X0.here hx rfl (hb hby own_d3_0) rfl kz) ?_
  show Go p.tables e below P (s₁.setTop (mkF m 1 #[.val (.ref a), .val (.long tt), .second, .unset, .unset, .unset, .unset, .unset] [(.long tt)]))
  refine Go.s (fun kz => X0.ldc2J hx hown (mvT hZ (hw _ (List.mem_of_getElem? (i := 19) rfl))) rfl (hb hby own_d3_1) kz) ?_
  show Go p.tables e below P (s₁.setTop (mkF m 4 #[.val (.ref a), .val (.long tt), .second, .unset, .unset, .unset, .unset, .unset] [(.long (86400 : Int64)), (.long tt)]))
  obtain ⟨v1, T1, L1, X1, Q1, st1⟩ := Con.static (own_rm4 l Z a0 hw [] tt (86400 : Int64) h0 n0 Z0  (by decide)) X0 hx hZ (W := 0) hown (hw _ (List.mem_of_getElem? (i := 20) rfl)) (hw _ (List.mem_of_getElem? (i := 21) rfl)) (hw _ (List.mem_of_getElem? (i := 22) rfl)) (hw _ (List.mem_of_getElem? (i := 23) rfl)) (by decide) (by decide) (by decide) (by decide) (by decide) e0 (g := (mkF m 4 #[.val (.ref a), .val (.long tt), .second, .unset, .unset, .unset, .unset, .unset] [(.long (86400 : Int64)), (.long tt)])) rfl (by rw [hml]; rfl) (argsL := [(.long tt), (.long (86400 : Int64))]) (rest := []) rfl (lenOf own_pd_2 rfl) rfl (by show 2 * 0 + _ ≤ _; exact Nat.le_of_eq rfl) (hb hby own_d3_4)
  obtain ⟨rfl, Nq1, e1⟩ := Q1
  have N1 := Fr.app N0 Nq1
  refine Go.s (fun {t} => st1) ?_
  show Go p.tables e below P (T1.setTop (mkF m 7 #[.val (.ref a), .val (.long tt), .second, .unset, .unset, .unset, .unset, .unset] [(.long (own_f4 tt (86400 : Int64)))]))
  refine Go.s (fun kz => XT.lstoreN X1.here hx rfl (hb hby own_d3_7) rfl (l' := #[.val (.ref a), .val (.long tt), .second, .val (.long (own_f4 tt (86400 : Int64))), .second, .unset, .unset, .unset]) rfl kz) ?_
  show Go p.tables e below P (T1.setTop (mkF m 8 #[.val (.ref a), .val (.long tt), .second, .val (.long (own_f4 tt (86400 : Int64))), .second, .unset, .unset, .unset] []))
  refine Go.s (fun kz => XS.aloadN X1.here hx rfl (hb hby own_d3_8) rfl rfl kz) ?_
  show Go p.tables e below P (T1.setTop (mkF m 9 #[.val (.ref a), .val (.long tt), .second, .val (.long (own_f4 tt (86400 : Int64))), .second, .unset, .unset, .unset] [(.ref a)]))
  refine Go.s (fun kz => XT.lloadN X1.here hx rfl (hb hby own_d3_9) rfl kz) ?_
  show Go p.tables e below P (T1.setTop (mkF m 10 #[.val (.ref a), .val (.long tt), .second, .val (.long (own_f4 tt (86400 : Int64))), .second, .unset, .unset, .unset] [(.long tt), (.ref a)]))
  refine Go.s (fun kz => X1.ldc2J hx hown (mvT hZ (hw _ (List.mem_of_getElem? (i := 19) rfl))) rfl (hb hby own_d3_10) kz) ?_
  show Go p.tables e below P (T1.setTop (mkF m 13 #[.val (.ref a), .val (.long tt), .second, .val (.long (own_f4 tt (86400 : Int64))), .second, .unset, .unset, .unset] [(.long (86400 : Int64)), (.long tt), (.ref a)]))
  obtain ⟨v2, T2, L2, X2, Q2, st2⟩ := Con.static (own_rm5 l Z a0 hw [] tt (86400 : Int64) h0 n0 Z0  (by decide)) X1 hx hZ (W := 1) hown (hw _ (List.mem_of_getElem? (i := 24) rfl)) (hw _ (List.mem_of_getElem? (i := 25) rfl)) (hw _ (List.mem_of_getElem? (i := 22) rfl)) (hw _ (List.mem_of_getElem? (i := 26) rfl)) (by decide) (by decide) (by decide) (by decide) (by decide) e1 (g := (mkF m 13 #[.val (.ref a), .val (.long tt), .second, .val (.long (own_f4 tt (86400 : Int64))), .second, .unset, .unset, .unset] [(.long (86400 : Int64)), (.long tt), (.ref a)])) rfl (by rw [hml]; rfl) (argsL := [(.long tt), (.long (86400 : Int64))]) (rest := [(.ref a)]) rfl (lenOf own_pd_2 rfl) rfl (by show 2 * 0 + _ ≤ _; exact Nat.le_of_eq rfl) (hb hby own_d3_13)
  obtain ⟨rfl, Nq2, e2⟩ := Q2
  have N2 := Fr.app N1 Nq2
  refine Go.s (fun {t} => st2) ?_
  show Go p.tables e below P (T2.setTop (mkF m 16 #[.val (.ref a), .val (.long tt), .second, .val (.long (own_f4 tt (86400 : Int64))), .second, .unset, .unset, .unset] [(.long (own_f5 tt (86400 : Int64))), (.ref a)]))
  obtain ⟨v3, T3, L3, X3, Q3, st3⟩ := Con.priv (own_rm6_2 l Z a0 hw [] a b kk (own_f5 tt (86400 : Int64)) s0 s1 h0 n0 Z0 V_b F_s) X2 hx hZ (W := 0) hown (hw _ (List.mem_of_getElem? (i := 27) rfl)) (hw _ (List.mem_of_getElem? (i := 4) rfl)) (hw _ (List.mem_of_getElem? (i := 29) rfl)) (hw _ (List.mem_of_getElem? (i := 28) rfl)) (hw _ (List.mem_of_getElem? (i := 5) rfl)) (hw _ (List.mem_of_getElem? (i := 30) rfl)) (by decide) (by decide) (by decide) (by decide) (by decide) e2 (g := (mkF m 16 #[.val (.ref a), .val (.long tt), .second, .val (.long (own_f4 tt (86400 : Int64))), .second, .unset, .unset, .unset] [(.long (own_f5 tt (86400 : Int64))), (.ref a)])) rfl (by rw [hml]; rfl) E_a (argsL := [(.long (own_f5 tt (86400 : Int64)))]) (rest := []) rfl (lenOf own_pd_3 rfl) rfl (by show 2 * 0 + _ ≤ _; exact Nat.le_of_eq rfl) (hb hby own_d3_16)
  obtain ⟨hd3, Nq3, e3⟩ := Q3
  have N3 := Fr.app N2 Nq3
  rcases hd3 with ⟨rfl, k0, k1⟩ | ⟨rfl, k0, k1, k2⟩ | ⟨rfl, k0, k1, k2⟩ | ⟨rfl, k0, k1⟩ | ⟨rfl, k0, k1⟩
  · skip
    refine Go.s (fun {t} => st3) ?_
    show Go p.tables e below P (T3.setTop (mkF m 19 #[.val (.ref a), .val (.long tt), .second, .val (.long (own_f4 tt (86400 : Int64))), .second, .unset, .unset, .unset] [(.int (2 : Int32))]))
    refine Go.s (fun kz => XS.istore X3.here hx rfl (hb hby own_d3_19) rfl (l' := #[.val (.ref a), .val (.long tt), .second, .val (.long (own_f4 tt (86400 : Int64))), .second, .val (.int (2 : Int32)), .unset, .unset]) rfl kz) ?_
    show Go p.tables e below P (T3.setTop (mkF m 21 #[.val (.ref a), .val (.long tt), .second, .val (.long (own_f4 tt (86400 : Int64))), .second, .val (.int (2 : Int32)), .unset, .unset] []))
    refine Go.s (fun kz => XS.iload X3.here hx rfl (hb hby own_d3_21) rfl kz) ?_
    show Go p.tables e below P (T3.setTop (mkF m 23 #[.val (.ref a), .val (.long tt), .second, .val (.long (own_f4 tt (86400 : Int64))), .second, .val (.int (2 : Int32)), .unset, .unset] [(.int (2 : Int32))]))
    refine Go.s (fun kz => XS.aloadN X3.here hx rfl (hb hby own_d3_23) rfl rfl kz) ?_
    show Go p.tables e below P (T3.setTop (mkF m 24 #[.val (.ref a), .val (.long tt), .second, .val (.long (own_f4 tt (86400 : Int64))), .second, .val (.int (2 : Int32)), .unset, .unset] [(.ref a), (.int (2 : Int32))]))
    obtain ⟨T4, X4, e4, st4⟩ := getF X3 hx hZ hown (host := "") (Or.inl (hw _ (List.mem_of_getElem? (i := 12) rfl))) Via.refl e3 F_s (g := (mkF m 24 #[.val (.ref a), .val (.long tt), .second, .val (.long (own_f4 tt (86400 : Int64))), .second, .val (.int (2 : Int32)), .unset, .unset] [(.ref a), (.int (2 : Int32))])) rfl rfl (hb hby own_d3_24)
    refine Go.s (fun {t} => st4 t) ?_
    show Go p.tables e below P (T4.setTop (mkF m 27 #[.val (.ref a), .val (.long tt), .second, .val (.long (own_f4 tt (86400 : Int64))), .second, .val (.int (2 : Int32)), .unset, .unset] [(.ref b), (.int (2 : Int32))]))
    obtain ⟨cl5, Ar5, q5, Sz5, Ng5, Ha5, Ft5⟩ := id V_b
    refine Go.s (fun {t} kz => X4.arraylength hx (by rw [e4]; exact Ar5.1) (State.isArrayOf_alike hZ.alike Ar5.2.1) (g := (mkF m 27 #[.val (.ref a), .val (.long tt), .second, .val (.long (own_f4 tt (86400 : Int64))), .second, .val (.int (2 : Int32)), .unset, .unset] [(.ref b), (.int (2 : Int32))])) rfl rfl (hb hby own_d3_27) _ kz) ?_
    rw [len_of Sz5 Ng5]
    show Go p.tables e below P (T4.setTop (mkF m 28 #[.val (.ref a), .val (.long tt), .second, .val (.long (own_f4 tt (86400 : Int64))), .second, .val (.int (2 : Int32)), .unset, .unset] [(.int (2 : Int32)), (.int (2 : Int32))]))
    refine Go.s (fun kz => XS.icmpYes X4.here hx rfl (pc0 := 28) (pc' := 50) rfl (hb hby own_d3_28) rfl (XT.ii_ge_t (by decide)) (by decide) (by decide) kz) ?_
    show Go p.tables e below P (T4.setTop (mkF m 50 #[.val (.ref a), .val (.long tt), .second, .val (.long (own_f4 tt (86400 : Int64))), .second, .val (.int (2 : Int32)), .unset, .unset] []))
    refine Go.s (fun kz => XT.lloadN X4.here hx rfl (hb hby own_d3_50) rfl kz) ?_
    show Go p.tables e below P (T4.setTop (mkF m 51 #[.val (.ref a), .val (.long tt), .second, .val (.long (own_f4 tt (86400 : Int64))), .second, .val (.int (2 : Int32)), .unset, .unset] [(.long (own_f4 tt (86400 : Int64)))]))
    refine Go.s (fun kz => XT.lconst X4.here hx rfl (hb hby own_d3_51) kz) ?_
    show Go p.tables e below P (T4.setTop (mkF m 52 #[.val (.ref a), .val (.long tt), .second, .val (.long (own_f4 tt (86400 : Int64))), .second, .val (.int (2 : Int32)), .unset, .unset] [(.long (1 : Int64)), (.long (own_f4 tt (86400 : Int64)))]))
    refine Go.s (fun kz => XT.ladd X4.here hx rfl (hb hby own_d3_52) rfl kz) ?_
    show Go p.tables e below P (T4.setTop (mkF m 53 #[.val (.ref a), .val (.long tt), .second, .val (.long (own_f4 tt (86400 : Int64))), .second, .val (.int (2 : Int32)), .unset, .unset] [(.long ((own_f4 tt (86400 : Int64)) + (1 : Int64)))]))
    refine Go.s (fun kz => X4.ldc2J hx hown (mvT hZ (hw _ (List.mem_of_getElem? (i := 19) rfl))) rfl (hb hby own_d3_53) kz) ?_
    show Go p.tables e below P (T4.setTop (mkF m 56 #[.val (.ref a), .val (.long tt), .second, .val (.long (own_f4 tt (86400 : Int64))), .second, .val (.int (2 : Int32)), .unset, .unset] [(.long (86400 : Int64)), (.long ((own_f4 tt (86400 : Int64)) + (1 : Int64)))]))
    refine Go.s (fun kz => XT.lmul X4.here hx rfl (hb hby own_d3_56) rfl kz) ?_
    show Go p.tables e below P (T4.setTop (mkF m 57 #[.val (.ref a), .val (.long tt), .second, .val (.long (own_f4 tt (86400 : Int64))), .second, .val (.int (2 : Int32)), .unset, .unset] [(.long (((own_f4 tt (86400 : Int64)) + (1 : Int64)) * (86400 : Int64)))]))
    refine Go.s (fun kz => XS.aloadN X4.here hx rfl (hb hby own_d3_57) rfl rfl kz) ?_
    show Go p.tables e below P (T4.setTop (mkF m 58 #[.val (.ref a), .val (.long tt), .second, .val (.long (own_f4 tt (86400 : Int64))), .second, .val (.int (2 : Int32)), .unset, .unset] [(.ref a), (.long (((own_f4 tt (86400 : Int64)) + (1 : Int64)) * (86400 : Int64)))]))
    obtain ⟨T6, X6, e6, st6⟩ := getF X4 hx hZ hown (host := "") (Or.inl (hw _ (List.mem_of_getElem? (i := 12) rfl))) Via.refl e4 F_s (g := (mkF m 58 #[.val (.ref a), .val (.long tt), .second, .val (.long (own_f4 tt (86400 : Int64))), .second, .val (.int (2 : Int32)), .unset, .unset] [(.ref a), (.long (((own_f4 tt (86400 : Int64)) + (1 : Int64)) * (86400 : Int64)))])) rfl rfl (hb hby own_d3_58)
    refine Go.s (fun {t} => st6 t) ?_
    show Go p.tables e below P (T6.setTop (mkF m 61 #[.val (.ref a), .val (.long tt), .second, .val (.long (own_f4 tt (86400 : Int64))), .second, .val (.int (2 : Int32)), .unset, .unset] [(.ref b), (.long (((own_f4 tt (86400 : Int64)) + (1 : Int64)) * (86400 : Int64)))]))
    refine Go.s (fun kz => XS.iconst X6.here hx rfl (hb hby own_d3_61) kz) ?_
    show Go p.tables e below P (T6.setTop (mkF m 62 #[.val (.ref a), .val (.long tt), .second, .val (.long (own_f4 tt (86400 : Int64))), .second, .val (.int (2 : Int32)), .unset, .unset] [(.int (0 : Int32)), (.ref b), (.long (((own_f4 tt (86400 : Int64)) + (1 : Int64)) * (86400 : Int64)))]))
    obtain ⟨cl7, Ar7, q7, Sz7, Ng7, Ha7, Ft7⟩ := id V_b
    have hin7 := inb_of (j := (0 : Int32)) Sz7 ⟨by decide, by decide⟩
    have hat7 := Has.at Ha7 hin7 (v := (.int s0)) rfl
    refine Go.s (fun {t} kz => X6.iaload hx (j := (0 : Int32)) (v := (.int s0)) (by rw [e6]; exact Ar7.1) (State.isArrayOf_alike hZ.alike Ar7.2.1) Ar7.2.2 hin7 hat7 (g := (mkF m 62 #[.val (.ref a), .val (.long tt), .second, .val (.long (own_f4 tt (86400 : Int64))), .second, .val (.int (2 : Int32)), .unset, .unset] [(.int (0 : Int32)), (.ref b), (.long (((own_f4 tt (86400 : Int64)) + (1 : Int64)) * (86400 : Int64)))])) rfl rfl (hb hby own_d3_62) _ kz) ?_
    show Go p.tables e below P (T6.setTop (mkF m 63 #[.val (.ref a), .val (.long tt), .second, .val (.long (own_f4 tt (86400 : Int64))), .second, .val (.int (2 : Int32)), .unset, .unset] [(.int s0), (.long (((own_f4 tt (86400 : Int64)) + (1 : Int64)) * (86400 : Int64)))]))
    refine Go.s (fun kz => XT.i2l X6.here hx rfl (hb hby own_d3_63) rfl kz) ?_
    show Go p.tables e below P (T6.setTop (mkF m 64 #[.val (.ref a), .val (.long tt), .second, .val (.long (own_f4 tt (86400 : Int64))), .second, .val (.int (2 : Int32)), .unset, .unset] [(.long s0.toInt64), (.long (((own_f4 tt (86400 : Int64)) + (1 : Int64)) * (86400 : Int64)))]))
    refine Go.s (fun kz => XT.ladd X6.here hx rfl (hb hby own_d3_64) rfl kz) ?_
    show Go p.tables e below P (T6.setTop (mkF m 65 #[.val (.ref a), .val (.long tt), .second, .val (.long (own_f4 tt (86400 : Int64))), .second, .val (.int (2 : Int32)), .unset, .unset] [(.long ((((own_f4 tt (86400 : Int64)) + (1 : Int64)) * (86400 : Int64)) + s0.toInt64))]))
    refine Go.s (fun kz => XT.lstore X6.here hx rfl (hb hby own_d3_65) rfl (l' := #[.val (.ref a), .val (.long tt), .second, .val (.long (own_f4 tt (86400 : Int64))), .second, .val (.int (2 : Int32)), .val (.long ((((own_f4 tt (86400 : Int64)) + (1 : Int64)) * (86400 : Int64)) + s0.toInt64)), .second]) rfl kz) ?_
    show Go p.tables e below P (T6.setTop (mkF m 67 #[.val (.ref a), .val (.long tt), .second, .val (.long (own_f4 tt (86400 : Int64))), .second, .val (.int (2 : Int32)), .val (.long ((((own_f4 tt (86400 : Int64)) + (1 : Int64)) * (86400 : Int64)) + s0.toInt64)), .second] []))
    refine Go.s (fun kz => XT.lload X6.here hx rfl (hb hby own_d3_67) rfl kz) ?_
    show Go p.tables e below P (T6.setTop (mkF m 69 #[.val (.ref a), .val (.long tt), .second, .val (.long (own_f4 tt (86400 : Int64))), .second, .val (.int (2 : Int32)), .val (.long ((((own_f4 tt (86400 : Int64)) + (1 : Int64)) * (86400 : Int64)) + s0.toInt64)), .second] [(.long ((((own_f4 tt (86400 : Int64)) + (1 : Int64)) * (86400 : Int64)) + s0.toInt64))]))
    exact Go.retJ X6 hx hlk hret (hb hby own_d3_69) (fun U hU hF => hP U _ _ (by rw [hU, e6]; exact ⟨(Or.inl (⟨rfl, k0, k1⟩)), N3, rfl⟩) ⟨hF.1, hF.2.1, hF.2.2.mono (by decide) (by decide)⟩)
  · skip
    refine Go.s (fun {t} => st3) ?_
    show Go p.tables e below P (T3.setTop (mkF m 19 #[.val (.ref a), .val (.long tt), .second, .val (.long (own_f4 tt (86400 : Int64))), .second, .unset, .unset, .unset] [(.int (1 : Int32))]))
    refine Go.s (fun kz => XS.istore X3.here hx rfl (hb hby own_d3_19) rfl (l' := #[.val (.ref a), .val (.long tt), .second, .val (.long (own_f4 tt (86400 : Int64))), .second, .val (.int (1 : Int32)), .unset, .unset]) rfl kz) ?_
    show Go p.tables e below P (T3.setTop (mkF m 21 #[.val (.ref a), .val (.long tt), .second, .val (.long (own_f4 tt (86400 : Int64))), .second, .val (.int (1 : Int32)), .unset, .unset] []))
    refine Go.s (fun kz => XS.iload X3.here hx rfl (hb hby own_d3_21) rfl kz) ?_
    show Go p.tables e below P (T3.setTop (mkF m 23 #[.val (.ref a), .val (.long tt), .second, .val (.long (own_f4 tt (86400 : Int64))), .second, .val (.int (1 : Int32)), .unset, .unset] [(.int (1 : Int32))]))
    refine Go.s (fun kz => XS.aloadN X3.here hx rfl (hb hby own_d3_23) rfl rfl kz) ?_
    show Go p.tables e below P (T3.setTop (mkF m 24 #[.val (.ref a), .val (.long tt), .second, .val (.long (own_f4 tt (86400 : Int64))), .second, .val (.int (1 : Int32)), .unset, .unset] [(.ref a), (.int (1 : Int32))]))
    obtain ⟨T8, X8, e8, st8⟩ := getF X3 hx hZ hown (host := "") (Or.inl (hw _ (List.mem_of_getElem? (i := 12) rfl))) Via.refl e3 F_s (g := (mkF m 24 #[.val (.ref a), .val (.long tt), .second, .val (.long (own_f4 tt (86400 : Int64))), .second, .val (.int (1 : Int32)), .unset, .unset] [(.ref a), (.int (1 : Int32))])) rfl rfl (hb hby own_d3_24)
    refine Go.s (fun {t} => st8 t) ?_
    show Go p.tables e below P (T8.setTop (mkF m 27 #[.val (.ref a), .val (.long tt), .second, .val (.long (own_f4 tt (86400 : Int64))), .second, .val (.int (1 : Int32)), .unset, .unset] [(.ref b), (.int (1 : Int32))]))
    obtain ⟨cl9, Ar9, q9, Sz9, Ng9, Ha9, Ft9⟩ := id V_b
    refine Go.s (fun {t} kz => X8.arraylength hx (by rw [e8]; exact Ar9.1) (State.isArrayOf_alike hZ.alike Ar9.2.1) (g := (mkF m 27 #[.val (.ref a), .val (.long tt), .second, .val (.long (own_f4 tt (86400 : Int64))), .second, .val (.int (1 : Int32)), .unset, .unset] [(.ref b), (.int (1 : Int32))])) rfl rfl (hb hby own_d3_27) _ kz) ?_
    rw [len_of Sz9 Ng9]
    show Go p.tables e below P (T8.setTop (mkF m 28 #[.val (.ref a), .val (.long tt), .second, .val (.long (own_f4 tt (86400 : Int64))), .second, .val (.int (1 : Int32)), .unset, .unset] [(.int (2 : Int32)), (.int (1 : Int32))]))
    refine Go.s (fun kz => XS.icmpNo X8.here hx rfl (hb hby own_d3_28) rfl (XT.ii_ge_f (by decide)) kz) ?_
    show Go p.tables e below P (T8.setTop (mkF m 31 #[.val (.ref a), .val (.long tt), .second, .val (.long (own_f4 tt (86400 : Int64))), .second, .val (.int (1 : Int32)), .unset, .unset] []))
    refine Go.s (fun kz => XT.lloadN X8.here hx rfl (hb hby own_d3_31) rfl kz) ?_
    show Go p.tables e below P (T8.setTop (mkF m 32 #[.val (.ref a), .val (.long tt), .second, .val (.long (own_f4 tt (86400 : Int64))), .second, .val (.int (1 : Int32)), .unset, .unset] [(.long (own_f4 tt (86400 : Int64)))]))
    refine Go.s (fun kz => X8.ldc2J hx hown (mvT hZ (hw _ (List.mem_of_getElem? (i := 19) rfl))) rfl (hb hby own_d3_32) kz) ?_
    show Go p.tables e below P (T8.setTop (mkF m 35 #[.val (.ref a), .val (.long tt), .second, .val (.long (own_f4 tt (86400 : Int64))), .second, .val (.int (1 : Int32)), .unset, .unset] [(.long (86400 : Int64)), (.long (own_f4 tt (86400 : Int64)))]))
    refine Go.s (fun kz => XT.lmul X8.here hx rfl (hb hby own_d3_35) rfl kz) ?_
    show Go p.tables e below P (T8.setTop (mkF m 36 #[.val (.ref a), .val (.long tt), .second, .val (.long (own_f4 tt (86400 : Int64))), .second, .val (.int (1 : Int32)), .unset, .unset] [(.long ((own_f4 tt (86400 : Int64)) * (86400 : Int64)))]))
    refine Go.s (fun kz => XS.aloadN X8.here hx rfl (hb hby own_d3_36) rfl rfl kz) ?_
    show Go p.tables e below P (T8.setTop (mkF m 37 #[.val (.ref a), .val (.long tt), .second, .val (.long (own_f4 tt (86400 : Int64))), .second, .val (.int (1 : Int32)), .unset, .unset] [(.ref a), (.long ((own_f4 tt (86400 : Int64)) * (86400 : Int64)))]))
    obtain ⟨T10, X10, e10, st10⟩ := getF X8 hx hZ hown (host := "") (Or.inl (hw _ (List.mem_of_getElem? (i := 12) rfl))) Via.refl e8 F_s (g := (mkF m 37 #[.val (.ref a), .val (.long tt), .second, .val (.long (own_f4 tt (86400 : Int64))), .second, .val (.int (1 : Int32)), .unset, .unset] [(.ref a), (.long ((own_f4 tt (86400 : Int64)) * (86400 : Int64)))])) rfl rfl (hb hby own_d3_37)
    refine Go.s (fun {t} => st10 t) ?_
    show Go p.tables e below P (T10.setTop (mkF m 40 #[.val (.ref a), .val (.long tt), .second, .val (.long (own_f4 tt (86400 : Int64))), .second, .val (.int (1 : Int32)), .unset, .unset] [(.ref b), (.long ((own_f4 tt (86400 : Int64)) * (86400 : Int64)))]))
    refine Go.s (fun kz => XS.iload X10.here hx rfl (hb hby own_d3_40) rfl kz) ?_
    show Go p.tables e below P (T10.setTop (mkF m 42 #[.val (.ref a), .val (.long tt), .second, .val (.long (own_f4 tt (86400 : Int64))), .second, .val (.int (1 : Int32)), .unset, .unset] [(.int (1 : Int32)), (.ref b), (.long ((own_f4 tt (86400 : Int64)) * (86400 : Int64)))]))
    obtain ⟨cl11, Ar11, q11, Sz11, Ng11, Ha11, Ft11⟩ := id V_b
    have hin11 := inb_of (j := (1 : Int32)) Sz11 ⟨by decide, by decide⟩
    have hat11 := Has.at Ha11 hin11 (v := (.int s1)) rfl
    refine Go.s (fun {t} kz => X10.iaload hx (j := (1 : Int32)) (v := (.int s1)) (by rw [e10]; exact Ar11.1) (State.isArrayOf_alike hZ.alike Ar11.2.1) Ar11.2.2 hin11 hat11 (g := (mkF m 42 #[.val (.ref a), .val (.long tt), .second, .val (.long (own_f4 tt (86400 : Int64))), .second, .val (.int (1 : Int32)), .unset, .unset] [(.int (1 : Int32)), (.ref b), (.long ((own_f4 tt (86400 : Int64)) * (86400 : Int64)))])) rfl rfl (hb hby own_d3_42) _ kz) ?_
    show Go p.tables e below P (T10.setTop (mkF m 43 #[.val (.ref a), .val (.long tt), .second, .val (.long (own_f4 tt (86400 : Int64))), .second, .val (.int (1 : Int32)), .unset, .unset] [(.int s1), (.long ((own_f4 tt (86400 : Int64)) * (86400 : Int64)))]))
    refine Go.s (fun kz => XT.i2l X10.here hx rfl (hb hby own_d3_43) rfl kz) ?_
    show Go p.tables e below P (T10.setTop (mkF m 44 #[.val (.ref a), .val (.long tt), .second, .val (.long (own_f4 tt (86400 : Int64))), .second, .val (.int (1 : Int32)), .unset, .unset] [(.long s1.toInt64), (.long ((own_f4 tt (86400 : Int64)) * (86400 : Int64)))]))
    refine Go.s (fun kz => XT.ladd X10.here hx rfl (hb hby own_d3_44) rfl kz) ?_
    show Go p.tables e below P (T10.setTop (mkF m 45 #[.val (.ref a), .val (.long tt), .second, .val (.long (own_f4 tt (86400 : Int64))), .second, .val (.int (1 : Int32)), .unset, .unset] [(.long (((own_f4 tt (86400 : Int64)) * (86400 : Int64)) + s1.toInt64))]))
    refine Go.s (fun kz => XT.lstore X10.here hx rfl (hb hby own_d3_45) rfl (l' := #[.val (.ref a), .val (.long tt), .second, .val (.long (own_f4 tt (86400 : Int64))), .second, .val (.int (1 : Int32)), .val (.long (((own_f4 tt (86400 : Int64)) * (86400 : Int64)) + s1.toInt64)), .second]) rfl kz) ?_
    show Go p.tables e below P (T10.setTop (mkF m 47 #[.val (.ref a), .val (.long tt), .second, .val (.long (own_f4 tt (86400 : Int64))), .second, .val (.int (1 : Int32)), .val (.long (((own_f4 tt (86400 : Int64)) * (86400 : Int64)) + s1.toInt64)), .second] []))
    refine Go.s (fun kz => XS.goto X10.here hx rfl (pc0 := 47) (pc' := 67) rfl (hb hby own_d3_47) (by decide) (by decide) kz) ?_
    show Go p.tables e below P (T10.setTop (mkF m 67 #[.val (.ref a), .val (.long tt), .second, .val (.long (own_f4 tt (86400 : Int64))), .second, .val (.int (1 : Int32)), .val (.long (((own_f4 tt (86400 : Int64)) * (86400 : Int64)) + s1.toInt64)), .second] []))
    refine Go.s (fun kz => XT.lload X10.here hx rfl (hb hby own_d3_67) rfl kz) ?_
    show Go p.tables e below P (T10.setTop (mkF m 69 #[.val (.ref a), .val (.long tt), .second, .val (.long (own_f4 tt (86400 : Int64))), .second, .val (.int (1 : Int32)), .val (.long (((own_f4 tt (86400 : Int64)) * (86400 : Int64)) + s1.toInt64)), .second] [(.long (((own_f4 tt (86400 : Int64)) * (86400 : Int64)) + s1.toInt64))]))
    exact Go.retJ X10 hx hlk hret (hb hby own_d3_69) (fun U hU hF => hP U _ _ (by rw [hU, e10]; exact ⟨(Or.inr (Or.inl (⟨rfl, k0, k1, k2⟩))), N3, rfl⟩) ⟨hF.1, hF.2.1, hF.2.2.mono (by decide) (by decide)⟩)
  · skip
    refine Go.s (fun {t} => st3) ?_
    show Go p.tables e below P (T3.setTop (mkF m 19 #[.val (.ref a), .val (.long tt), .second, .val (.long (own_f4 tt (86400 : Int64))), .second, .unset, .unset, .unset] [(.int (1 : Int32))]))
    refine Go.s (fun kz => XS.istore X3.here hx rfl (hb hby own_d3_19) rfl (l' := #[.val (.ref a), .val (.long tt), .second, .val (.long (own_f4 tt (86400 : Int64))), .second, .val (.int (1 : Int32)), .unset, .unset]) rfl kz) ?_
    show Go p.tables e below P (T3.setTop (mkF m 21 #[.val (.ref a), .val (.long tt), .second, .val (.long (own_f4 tt (86400 : Int64))), .second, .val (.int (1 : Int32)), .unset, .unset] []))
    refine Go.s (fun kz => XS.iload X3.here hx rfl (hb hby own_d3_21) rfl kz) ?_
    show Go p.tables e below P (T3.setTop (mkF m 23 #[.val (.ref a), .val (.long tt), .second, .val (.long (own_f4 tt (86400 : Int64))), .second, .val (.int (1 : Int32)), .unset, .unset] [(.int (1 : Int32))]))
    refine Go.s (fun kz => XS.aloadN X3.here hx rfl (hb hby own_d3_23) rfl rfl kz) ?_
    show Go p.tables e below P (T3.setTop (mkF m 24 #[.val (.ref a), .val (.long tt), .second, .val (.long (own_f4 tt (86400 : Int64))), .second, .val (.int (1 : Int32)), .unset, .unset] [(.ref a), (.int (1 : Int32))]))
    obtain ⟨T12, X12, e12, st12⟩ := getF X3 hx hZ hown (host := "") (Or.inl (hw _ (List.mem_of_getElem? (i := 12) rfl))) Via.refl e3 F_s (g := (mkF m 24 #[.val (.ref a), .val (.long tt), .second, .val (.long (own_f4 tt (86400 : Int64))), .second, .val (.int (1 : Int32)), .unset, .unset] [(.ref a), (.int (1 : Int32))])) rfl rfl (hb hby own_d3_24)
    refine Go.s (fun {t} => st12 t) ?_
    show Go p.tables e below P (T12.setTop (mkF m 27 #[.val (.ref a), .val (.long tt), .second, .val (.long (own_f4 tt (86400 : Int64))), .second, .val (.int (1 : Int32)), .unset, .unset] [(.ref b), (.int (1 : Int32))]))
    obtain ⟨cl13, Ar13, q13, Sz13, Ng13, Ha13, Ft13⟩ := id V_b
    refine Go.s (fun {t} kz => X12.arraylength hx (by rw [e12]; exact Ar13.1) (State.isArrayOf_alike hZ.alike Ar13.2.1) (g := (mkF m 27 #[.val (.ref a), .val (.long tt), .second, .val (.long (own_f4 tt (86400 : Int64))), .second, .val (.int (1 : Int32)), .unset, .unset] [(.ref b), (.int (1 : Int32))])) rfl rfl (hb hby own_d3_27) _ kz) ?_
    rw [len_of Sz13 Ng13]
    show Go p.tables e below P (T12.setTop (mkF m 28 #[.val (.ref a), .val (.long tt), .second, .val (.long (own_f4 tt (86400 : Int64))), .second, .val (.int (1 : Int32)), .unset, .unset] [(.int (2 : Int32)), (.int (1 : Int32))]))
    refine Go.s (fun kz => XS.icmpNo X12.here hx rfl (hb hby own_d3_28) rfl (XT.ii_ge_f (by decide)) kz) ?_
    show Go p.tables e below P (T12.setTop (mkF m 31 #[.val (.ref a), .val (.long tt), .second, .val (.long (own_f4 tt (86400 : Int64))), .second, .val (.int (1 : Int32)), .unset, .unset] []))
    refine Go.s (fun kz => XT.lloadN X12.here hx rfl (hb hby own_d3_31) rfl kz) ?_
    show Go p.tables e below P (T12.setTop (mkF m 32 #[.val (.ref a), .val (.long tt), .second, .val (.long (own_f4 tt (86400 : Int64))), .second, .val (.int (1 : Int32)), .unset, .unset] [(.long (own_f4 tt (86400 : Int64)))]))
    refine Go.s (fun kz => X12.ldc2J hx hown (mvT hZ (hw _ (List.mem_of_getElem? (i := 19) rfl))) rfl (hb hby own_d3_32) kz) ?_
    show Go p.tables e below P (T12.setTop (mkF m 35 #[.val (.ref a), .val (.long tt), .second, .val (.long (own_f4 tt (86400 : Int64))), .second, .val (.int (1 : Int32)), .unset, .unset] [(.long (86400 : Int64)), (.long (own_f4 tt (86400 : Int64)))]))
    refine Go.s (fun kz => XT.lmul X12.here hx rfl (hb hby own_d3_35) rfl kz) ?_
    show Go p.tables e below P (T12.setTop (mkF m 36 #[.val (.ref a), .val (.long tt), .second, .val (.long (own_f4 tt (86400 : Int64))), .second, .val (.int (1 : Int32)), .unset, .unset] [(.long ((own_f4 tt (86400 : Int64)) * (86400 : Int64)))]))
    refine Go.s (fun kz => XS.aloadN X12.here hx rfl (hb hby own_d3_36) rfl rfl kz) ?_
    show Go p.tables e below P (T12.setTop (mkF m 37 #[.val (.ref a), .val (.long tt), .second, .val (.long (own_f4 tt (86400 : Int64))), .second, .val (.int (1 : Int32)), .unset, .unset] [(.ref a), (.long ((own_f4 tt (86400 : Int64)) * (86400 : Int64)))]))
    obtain ⟨T14, X14, e14, st14⟩ := getF X12 hx hZ hown (host := "") (Or.inl (hw _ (List.mem_of_getElem? (i := 12) rfl))) Via.refl e12 F_s (g := (mkF m 37 #[.val (.ref a), .val (.long tt), .second, .val (.long (own_f4 tt (86400 : Int64))), .second, .val (.int (1 : Int32)), .unset, .unset] [(.ref a), (.long ((own_f4 tt (86400 : Int64)) * (86400 : Int64)))])) rfl rfl (hb hby own_d3_37)
    refine Go.s (fun {t} => st14 t) ?_
    show Go p.tables e below P (T14.setTop (mkF m 40 #[.val (.ref a), .val (.long tt), .second, .val (.long (own_f4 tt (86400 : Int64))), .second, .val (.int (1 : Int32)), .unset, .unset] [(.ref b), (.long ((own_f4 tt (86400 : Int64)) * (86400 : Int64)))]))
    refine Go.s (fun kz => XS.iload X14.here hx rfl (hb hby own_d3_40) rfl kz) ?_
    show Go p.tables e below P (T14.setTop (mkF m 42 #[.val (.ref a), .val (.long tt), .second, .val (.long (own_f4 tt (86400 : Int64))), .second, .val (.int (1 : Int32)), .unset, .unset] [(.int (1 : Int32)), (.ref b), (.long ((own_f4 tt (86400 : Int64)) * (86400 : Int64)))]))
    obtain ⟨cl15, Ar15, q15, Sz15, Ng15, Ha15, Ft15⟩ := id V_b
    have hin15 := inb_of (j := (1 : Int32)) Sz15 ⟨by decide, by decide⟩
    have hat15 := Has.at Ha15 hin15 (v := (.int s1)) rfl
    refine Go.s (fun {t} kz => X14.iaload hx (j := (1 : Int32)) (v := (.int s1)) (by rw [e14]; exact Ar15.1) (State.isArrayOf_alike hZ.alike Ar15.2.1) Ar15.2.2 hin15 hat15 (g := (mkF m 42 #[.val (.ref a), .val (.long tt), .second, .val (.long (own_f4 tt (86400 : Int64))), .second, .val (.int (1 : Int32)), .unset, .unset] [(.int (1 : Int32)), (.ref b), (.long ((own_f4 tt (86400 : Int64)) * (86400 : Int64)))])) rfl rfl (hb hby own_d3_42) _ kz) ?_
    show Go p.tables e below P (T14.setTop (mkF m 43 #[.val (.ref a), .val (.long tt), .second, .val (.long (own_f4 tt (86400 : Int64))), .second, .val (.int (1 : Int32)), .unset, .unset] [(.int s1), (.long ((own_f4 tt (86400 : Int64)) * (86400 : Int64)))]))
    refine Go.s (fun kz => XT.i2l X14.here hx rfl (hb hby own_d3_43) rfl kz) ?_
    show Go p.tables e below P (T14.setTop (mkF m 44 #[.val (.ref a), .val (.long tt), .second, .val (.long (own_f4 tt (86400 : Int64))), .second, .val (.int (1 : Int32)), .unset, .unset] [(.long s1.toInt64), (.long ((own_f4 tt (86400 : Int64)) * (86400 : Int64)))]))
    refine Go.s (fun kz => XT.ladd X14.here hx rfl (hb hby own_d3_44) rfl kz) ?_
    show Go p.tables e below P (T14.setTop (mkF m 45 #[.val (.ref a), .val (.long tt), .second, .val (.long (own_f4 tt (86400 : Int64))), .second, .val (.int (1 : Int32)), .unset, .unset] [(.long (((own_f4 tt (86400 : Int64)) * (86400 : Int64)) + s1.toInt64))]))
    refine Go.s (fun kz => XT.lstore X14.here hx rfl (hb hby own_d3_45) rfl (l' := #[.val (.ref a), .val (.long tt), .second, .val (.long (own_f4 tt (86400 : Int64))), .second, .val (.int (1 : Int32)), .val (.long (((own_f4 tt (86400 : Int64)) * (86400 : Int64)) + s1.toInt64)), .second]) rfl kz) ?_
    show Go p.tables e below P (T14.setTop (mkF m 47 #[.val (.ref a), .val (.long tt), .second, .val (.long (own_f4 tt (86400 : Int64))), .second, .val (.int (1 : Int32)), .val (.long (((own_f4 tt (86400 : Int64)) * (86400 : Int64)) + s1.toInt64)), .second] []))
    refine Go.s (fun kz => XS.goto X14.here hx rfl (pc0 := 47) (pc' := 67) rfl (hb hby own_d3_47) (by decide) (by decide) kz) ?_
    show Go p.tables e below P (T14.setTop (mkF m 67 #[.val (.ref a), .val (.long tt), .second, .val (.long (own_f4 tt (86400 : Int64))), .second, .val (.int (1 : Int32)), .val (.long (((own_f4 tt (86400 : Int64)) * (86400 : Int64)) + s1.toInt64)), .second] []))
    refine Go.s (fun kz => XT.lload X14.here hx rfl (hb hby own_d3_67) rfl kz) ?_
    show Go p.tables e below P (T14.setTop (mkF m 69 #[.val (.ref a), .val (.long tt), .second, .val (.long (own_f4 tt (86400 : Int64))), .second, .val (.int (1 : Int32)), .val (.long (((own_f4 tt (86400 : Int64)) * (86400 : Int64)) + s1.toInt64)), .second] [(.long (((own_f4 tt (86400 : Int64)) * (86400 : Int64)) + s1.toInt64))]))
    exact Go.retJ X14 hx hlk hret (hb hby own_d3_69) (fun U hU hF => hP U _ _ (by rw [hU, e14]; exact ⟨(Or.inr (Or.inr (Or.inl (⟨rfl, k0, k1, k2⟩)))), N3, rfl⟩) ⟨hF.1, hF.2.1, hF.2.2.mono (by decide) (by decide)⟩)
  · skip
    refine Go.s (fun {t} => st3) ?_
    show Go p.tables e below P (T3.setTop (mkF m 19 #[.val (.ref a), .val (.long tt), .second, .val (.long (own_f4 tt (86400 : Int64))), .second, .unset, .unset, .unset] [(.int (0 : Int32))]))
    refine Go.s (fun kz => XS.istore X3.here hx rfl (hb hby own_d3_19) rfl (l' := #[.val (.ref a), .val (.long tt), .second, .val (.long (own_f4 tt (86400 : Int64))), .second, .val (.int (0 : Int32)), .unset, .unset]) rfl kz) ?_
    show Go p.tables e below P (T3.setTop (mkF m 21 #[.val (.ref a), .val (.long tt), .second, .val (.long (own_f4 tt (86400 : Int64))), .second, .val (.int (0 : Int32)), .unset, .unset] []))
    refine Go.s (fun kz => XS.iload X3.here hx rfl (hb hby own_d3_21) rfl kz) ?_
    show Go p.tables e below P (T3.setTop (mkF m 23 #[.val (.ref a), .val (.long tt), .second, .val (.long (own_f4 tt (86400 : Int64))), .second, .val (.int (0 : Int32)), .unset, .unset] [(.int (0 : Int32))]))
    refine Go.s (fun kz => XS.aloadN X3.here hx rfl (hb hby own_d3_23) rfl rfl kz) ?_
    show Go p.tables e below P (T3.setTop (mkF m 24 #[.val (.ref a), .val (.long tt), .second, .val (.long (own_f4 tt (86400 : Int64))), .second, .val (.int (0 : Int32)), .unset, .unset] [(.ref a), (.int (0 : Int32))]))
    obtain ⟨T16, X16, e16, st16⟩ := getF X3 hx hZ hown (host := "") (Or.inl (hw _ (List.mem_of_getElem? (i := 12) rfl))) Via.refl e3 F_s (g := (mkF m 24 #[.val (.ref a), .val (.long tt), .second, .val (.long (own_f4 tt (86400 : Int64))), .second, .val (.int (0 : Int32)), .unset, .unset] [(.ref a), (.int (0 : Int32))])) rfl rfl (hb hby own_d3_24)
    refine Go.s (fun {t} => st16 t) ?_
    show Go p.tables e below P (T16.setTop (mkF m 27 #[.val (.ref a), .val (.long tt), .second, .val (.long (own_f4 tt (86400 : Int64))), .second, .val (.int (0 : Int32)), .unset, .unset] [(.ref b), (.int (0 : Int32))]))
    obtain ⟨cl17, Ar17, q17, Sz17, Ng17, Ha17, Ft17⟩ := id V_b
    refine Go.s (fun {t} kz => X16.arraylength hx (by rw [e16]; exact Ar17.1) (State.isArrayOf_alike hZ.alike Ar17.2.1) (g := (mkF m 27 #[.val (.ref a), .val (.long tt), .second, .val (.long (own_f4 tt (86400 : Int64))), .second, .val (.int (0 : Int32)), .unset, .unset] [(.ref b), (.int (0 : Int32))])) rfl rfl (hb hby own_d3_27) _ kz) ?_
    rw [len_of Sz17 Ng17]
    show Go p.tables e below P (T16.setTop (mkF m 28 #[.val (.ref a), .val (.long tt), .second, .val (.long (own_f4 tt (86400 : Int64))), .second, .val (.int (0 : Int32)), .unset, .unset] [(.int (2 : Int32)), (.int (0 : Int32))]))
    refine Go.s (fun kz => XS.icmpNo X16.here hx rfl (hb hby own_d3_28) rfl (XT.ii_ge_f (by decide)) kz) ?_
    show Go p.tables e below P (T16.setTop (mkF m 31 #[.val (.ref a), .val (.long tt), .second, .val (.long (own_f4 tt (86400 : Int64))), .second, .val (.int (0 : Int32)), .unset, .unset] []))
    refine Go.s (fun kz => XT.lloadN X16.here hx rfl (hb hby own_d3_31) rfl kz) ?_
    show Go p.tables e below P (T16.setTop (mkF m 32 #[.val (.ref a), .val (.long tt), .second, .val (.long (own_f4 tt (86400 : Int64))), .second, .val (.int (0 : Int32)), .unset, .unset] [(.long (own_f4 tt (86400 : Int64)))]))
    refine Go.s (fun kz => X16.ldc2J hx hown (mvT hZ (hw _ (List.mem_of_getElem? (i := 19) rfl))) rfl (hb hby own_d3_32) kz) ?_
    show Go p.tables e below P (T16.setTop (mkF m 35 #[.val (.ref a), .val (.long tt), .second, .val (.long (own_f4 tt (86400 : Int64))), .second, .val (.int (0 : Int32)), .unset, .unset] [(.long (86400 : Int64)), (.long (own_f4 tt (86400 : Int64)))]))
    refine Go.s (fun kz => XT.lmul X16.here hx rfl (hb hby own_d3_35) rfl kz) ?_
    show Go p.tables e below P (T16.setTop (mkF m 36 #[.val (.ref a), .val (.long tt), .second, .val (.long (own_f4 tt (86400 : Int64))), .second, .val (.int (0 : Int32)), .unset, .unset] [(.long ((own_f4 tt (86400 : Int64)) * (86400 : Int64)))]))
    refine Go.s (fun kz => XS.aloadN X16.here hx rfl (hb hby own_d3_36) rfl rfl kz) ?_
    show Go p.tables e below P (T16.setTop (mkF m 37 #[.val (.ref a), .val (.long tt), .second, .val (.long (own_f4 tt (86400 : Int64))), .second, .val (.int (0 : Int32)), .unset, .unset] [(.ref a), (.long ((own_f4 tt (86400 : Int64)) * (86400 : Int64)))]))
    obtain ⟨T18, X18, e18, st18⟩ := getF X16 hx hZ hown (host := "") (Or.inl (hw _ (List.mem_of_getElem? (i := 12) rfl))) Via.refl e16 F_s (g := (mkF m 37 #[.val (.ref a), .val (.long tt), .second, .val (.long (own_f4 tt (86400 : Int64))), .second, .val (.int (0 : Int32)), .unset, .unset] [(.ref a), (.long ((own_f4 tt (86400 : Int64)) * (86400 : Int64)))])) rfl rfl (hb hby own_d3_37)
    refine Go.s (fun {t} => st18 t) ?_
    show Go p.tables e below P (T18.setTop (mkF m 40 #[.val (.ref a), .val (.long tt), .second, .val (.long (own_f4 tt (86400 : Int64))), .second, .val (.int (0 : Int32)), .unset, .unset] [(.ref b), (.long ((own_f4 tt (86400 : Int64)) * (86400 : Int64)))]))
    refine Go.s (fun kz => XS.iload X18.here hx rfl (hb hby own_d3_40) rfl kz) ?_
    show Go p.tables e below P (T18.setTop (mkF m 42 #[.val (.ref a), .val (.long tt), .second, .val (.long (own_f4 tt (86400 : Int64))), .second, .val (.int (0 : Int32)), .unset, .unset] [(.int (0 : Int32)), (.ref b), (.long ((own_f4 tt (86400 : Int64)) * (86400 : Int64)))]))
    obtain ⟨cl19, Ar19, q19, Sz19, Ng19, Ha19, Ft19⟩ := id V_b
    have hin19 := inb_of (j := (0 : Int32)) Sz19 ⟨by decide, by decide⟩
    have hat19 := Has.at Ha19 hin19 (v := (.int s0)) rfl
    refine Go.s (fun {t} kz => X18.iaload hx (j := (0 : Int32)) (v := (.int s0)) (by rw [e18]; exact Ar19.1) (State.isArrayOf_alike hZ.alike Ar19.2.1) Ar19.2.2 hin19 hat19 (g := (mkF m 42 #[.val (.ref a), .val (.long tt), .second, .val (.long (own_f4 tt (86400 : Int64))), .second, .val (.int (0 : Int32)), .unset, .unset] [(.int (0 : Int32)), (.ref b), (.long ((own_f4 tt (86400 : Int64)) * (86400 : Int64)))])) rfl rfl (hb hby own_d3_42) _ kz) ?_
    show Go p.tables e below P (T18.setTop (mkF m 43 #[.val (.ref a), .val (.long tt), .second, .val (.long (own_f4 tt (86400 : Int64))), .second, .val (.int (0 : Int32)), .unset, .unset] [(.int s0), (.long ((own_f4 tt (86400 : Int64)) * (86400 : Int64)))]))
    refine Go.s (fun kz => XT.i2l X18.here hx rfl (hb hby own_d3_43) rfl kz) ?_
    show Go p.tables e below P (T18.setTop (mkF m 44 #[.val (.ref a), .val (.long tt), .second, .val (.long (own_f4 tt (86400 : Int64))), .second, .val (.int (0 : Int32)), .unset, .unset] [(.long s0.toInt64), (.long ((own_f4 tt (86400 : Int64)) * (86400 : Int64)))]))
    refine Go.s (fun kz => XT.ladd X18.here hx rfl (hb hby own_d3_44) rfl kz) ?_
    show Go p.tables e below P (T18.setTop (mkF m 45 #[.val (.ref a), .val (.long tt), .second, .val (.long (own_f4 tt (86400 : Int64))), .second, .val (.int (0 : Int32)), .unset, .unset] [(.long (((own_f4 tt (86400 : Int64)) * (86400 : Int64)) + s0.toInt64))]))
    refine Go.s (fun kz => XT.lstore X18.here hx rfl (hb hby own_d3_45) rfl (l' := #[.val (.ref a), .val (.long tt), .second, .val (.long (own_f4 tt (86400 : Int64))), .second, .val (.int (0 : Int32)), .val (.long (((own_f4 tt (86400 : Int64)) * (86400 : Int64)) + s0.toInt64)), .second]) rfl kz) ?_
    show Go p.tables e below P (T18.setTop (mkF m 47 #[.val (.ref a), .val (.long tt), .second, .val (.long (own_f4 tt (86400 : Int64))), .second, .val (.int (0 : Int32)), .val (.long (((own_f4 tt (86400 : Int64)) * (86400 : Int64)) + s0.toInt64)), .second] []))
    refine Go.s (fun kz => XS.goto X18.here hx rfl (pc0 := 47) (pc' := 67) rfl (hb hby own_d3_47) (by decide) (by decide) kz) ?_
    show Go p.tables e below P (T18.setTop (mkF m 67 #[.val (.ref a), .val (.long tt), .second, .val (.long (own_f4 tt (86400 : Int64))), .second, .val (.int (0 : Int32)), .val (.long (((own_f4 tt (86400 : Int64)) * (86400 : Int64)) + s0.toInt64)), .second] []))
    refine Go.s (fun kz => XT.lload X18.here hx rfl (hb hby own_d3_67) rfl kz) ?_
    show Go p.tables e below P (T18.setTop (mkF m 69 #[.val (.ref a), .val (.long tt), .second, .val (.long (own_f4 tt (86400 : Int64))), .second, .val (.int (0 : Int32)), .val (.long (((own_f4 tt (86400 : Int64)) * (86400 : Int64)) + s0.toInt64)), .second] [(.long (((own_f4 tt (86400 : Int64)) * (86400 : Int64)) + s0.toInt64))]))
    exact Go.retJ X18 hx hlk hret (hb hby own_d3_69) (fun U hU hF => hP U _ _ (by rw [hU, e18]; exact ⟨(Or.inr (Or.inr (Or.inr (Or.inl (⟨rfl, k0, k1⟩))))), N3, rfl⟩) ⟨hF.1, hF.2.1, hF.2.2.mono (by decide) (by decide)⟩)
  · skip
    refine Go.s (fun {t} => st3) ?_
    show Go p.tables e below P (T3.setTop (mkF m 19 #[.val (.ref a), .val (.long tt), .second, .val (.long (own_f4 tt (86400 : Int64))), .second, .unset, .unset, .unset] [(.int (0 : Int32))]))
    refine Go.s (fun kz => XS.istore X3.here hx rfl (hb hby own_d3_19) rfl (l' := #[.val (.ref a), .val (.long tt), .second, .val (.long (own_f4 tt (86400 : Int64))), .second, .val (.int (0 : Int32)), .unset, .unset]) rfl kz) ?_
    show Go p.tables e below P (T3.setTop (mkF m 21 #[.val (.ref a), .val (.long tt), .second, .val (.long (own_f4 tt (86400 : Int64))), .second, .val (.int (0 : Int32)), .unset, .unset] []))
    refine Go.s (fun kz => XS.iload X3.here hx rfl (hb hby own_d3_21) rfl kz) ?_
    show Go p.tables e below P (T3.setTop (mkF m 23 #[.val (.ref a), .val (.long tt), .second, .val (.long (own_f4 tt (86400 : Int64))), .second, .val (.int (0 : Int32)), .unset, .unset] [(.int (0 : Int32))]))
    refine Go.s (fun kz => XS.aloadN X3.here hx rfl (hb hby own_d3_23) rfl rfl kz) ?_
    show Go p.tables e below P (T3.setTop (mkF m 24 #[.val (.ref a), .val (.long tt), .second, .val (.long (own_f4 tt (86400 : Int64))), .second, .val (.int (0 : Int32)), .unset, .unset] [(.ref a), (.int (0 : Int32))]))
    obtain ⟨T20, X20, e20, st20⟩ := getF X3 hx hZ hown (host := "") (Or.inl (hw _ (List.mem_of_getElem? (i := 12) rfl))) Via.refl e3 F_s (g := (mkF m 24 #[.val (.ref a), .val (.long tt), .second, .val (.long (own_f4 tt (86400 : Int64))), .second, .val (.int (0 : Int32)), .unset, .unset] [(.ref a), (.int (0 : Int32))])) rfl rfl (hb hby own_d3_24)
    refine Go.s (fun {t} => st20 t) ?_
    show Go p.tables e below P (T20.setTop (mkF m 27 #[.val (.ref a), .val (.long tt), .second, .val (.long (own_f4 tt (86400 : Int64))), .second, .val (.int (0 : Int32)), .unset, .unset] [(.ref b), (.int (0 : Int32))]))
    obtain ⟨cl21, Ar21, q21, Sz21, Ng21, Ha21, Ft21⟩ := id V_b
    refine Go.s (fun {t} kz => X20.arraylength hx (by rw [e20]; exact Ar21.1) (State.isArrayOf_alike hZ.alike Ar21.2.1) (g := (mkF m 27 #[.val (.ref a), .val (.long tt), .second, .val (.long (own_f4 tt (86400 : Int64))), .second, .val (.int (0 : Int32)), .unset, .unset] [(.ref b), (.int (0 : Int32))])) rfl rfl (hb hby own_d3_27) _ kz) ?_
    rw [len_of Sz21 Ng21]
    show Go p.tables e below P (T20.setTop (mkF m 28 #[.val (.ref a), .val (.long tt), .second, .val (.long (own_f4 tt (86400 : Int64))), .second, .val (.int (0 : Int32)), .unset, .unset] [(.int (2 : Int32)), (.int (0 : Int32))]))
    refine Go.s (fun kz => XS.icmpNo X20.here hx rfl (hb hby own_d3_28) rfl (XT.ii_ge_f (by decide)) kz) ?_
    show Go p.tables e below P (T20.setTop (mkF m 31 #[.val (.ref a), .val (.long tt), .second, .val (.long (own_f4 tt (86400 : Int64))), .second, .val (.int (0 : Int32)), .unset, .unset] []))
    refine Go.s (fun kz => XT.lloadN X20.here hx rfl (hb hby own_d3_31) rfl kz) ?_
    show Go p.tables e below P (T20.setTop (mkF m 32 #[.val (.ref a), .val (.long tt), .second, .val (.long (own_f4 tt (86400 : Int64))), .second, .val (.int (0 : Int32)), .unset, .unset] [(.long (own_f4 tt (86400 : Int64)))]))
    refine Go.s (fun kz => X20.ldc2J hx hown (mvT hZ (hw _ (List.mem_of_getElem? (i := 19) rfl))) rfl (hb hby own_d3_32) kz) ?_
    show Go p.tables e below P (T20.setTop (mkF m 35 #[.val (.ref a), .val (.long tt), .second, .val (.long (own_f4 tt (86400 : Int64))), .second, .val (.int (0 : Int32)), .unset, .unset] [(.long (86400 : Int64)), (.long (own_f4 tt (86400 : Int64)))]))
    refine Go.s (fun kz => XT.lmul X20.here hx rfl (hb hby own_d3_35) rfl kz) ?_
    show Go p.tables e below P (T20.setTop (mkF m 36 #[.val (.ref a), .val (.long tt), .second, .val (.long (own_f4 tt (86400 : Int64))), .second, .val (.int (0 : Int32)), .unset, .unset] [(.long ((own_f4 tt (86400 : Int64)) * (86400 : Int64)))]))
    refine Go.s (fun kz => XS.aloadN X20.here hx rfl (hb hby own_d3_36) rfl rfl kz) ?_
    show Go p.tables e below P (T20.setTop (mkF m 37 #[.val (.ref a), .val (.long tt), .second, .val (.long (own_f4 tt (86400 : Int64))), .second, .val (.int (0 : Int32)), .unset, .unset] [(.ref a), (.long ((own_f4 tt (86400 : Int64)) * (86400 : Int64)))]))
    obtain ⟨T22, X22, e22, st22⟩ := getF X20 hx hZ hown (host := "") (Or.inl (hw _ (List.mem_of_getElem? (i := 12) rfl))) Via.refl e20 F_s (g := (mkF m 37 #[.val (.ref a), .val (.long tt), .second, .val (.long (own_f4 tt (86400 : Int64))), .second, .val (.int (0 : Int32)), .unset, .unset] [(.ref a), (.long ((own_f4 tt (86400 : Int64)) * (86400 : Int64)))])) rfl rfl (hb hby own_d3_37)
    refine Go.s (fun {t} => st22 t) ?_
    show Go p.tables e below P (T22.setTop (mkF m 40 #[.val (.ref a), .val (.long tt), .second, .val (.long (own_f4 tt (86400 : Int64))), .second, .val (.int (0 : Int32)), .unset, .unset] [(.ref b), (.long ((own_f4 tt (86400 : Int64)) * (86400 : Int64)))]))
    refine Go.s (fun kz => XS.iload X22.here hx rfl (hb hby own_d3_40) rfl kz) ?_
    show Go p.tables e below P (T22.setTop (mkF m 42 #[.val (.ref a), .val (.long tt), .second, .val (.long (own_f4 tt (86400 : Int64))), .second, .val (.int (0 : Int32)), .unset, .unset] [(.int (0 : Int32)), (.ref b), (.long ((own_f4 tt (86400 : Int64)) * (86400 : Int64)))]))
    obtain ⟨cl23, Ar23, q23, Sz23, Ng23, Ha23, Ft23⟩ := id V_b
    have hin23 := inb_of (j := (0 : Int32)) Sz23 ⟨by decide, by decide⟩
    have hat23 := Has.at Ha23 hin23 (v := (.int s0)) rfl
    refine Go.s (fun {t} kz => X22.iaload hx (j := (0 : Int32)) (v := (.int s0)) (by rw [e22]; exact Ar23.1) (State.isArrayOf_alike hZ.alike Ar23.2.1) Ar23.2.2 hin23 hat23 (g := (mkF m 42 #[.val (.ref a), .val (.long tt), .second, .val (.long (own_f4 tt (86400 : Int64))), .second, .val (.int (0 : Int32)), .unset, .unset] [(.int (0 : Int32)), (.ref b), (.long ((own_f4 tt (86400 : Int64)) * (86400 : Int64)))])) rfl rfl (hb hby own_d3_42) _ kz) ?_
    show Go p.tables e below P (T22.setTop (mkF m 43 #[.val (.ref a), .val (.long tt), .second, .val (.long (own_f4 tt (86400 : Int64))), .second, .val (.int (0 : Int32)), .unset, .unset] [(.int s0), (.long ((own_f4 tt (86400 : Int64)) * (86400 : Int64)))]))
    refine Go.s (fun kz => XT.i2l X22.here hx rfl (hb hby own_d3_43) rfl kz) ?_
    show Go p.tables e below P (T22.setTop (mkF m 44 #[.val (.ref a), .val (.long tt), .second, .val (.long (own_f4 tt (86400 : Int64))), .second, .val (.int (0 : Int32)), .unset, .unset] [(.long s0.toInt64), (.long ((own_f4 tt (86400 : Int64)) * (86400 : Int64)))]))
    refine Go.s (fun kz => XT.ladd X22.here hx rfl (hb hby own_d3_44) rfl kz) ?_
    show Go p.tables e below P (T22.setTop (mkF m 45 #[.val (.ref a), .val (.long tt), .second, .val (.long (own_f4 tt (86400 : Int64))), .second, .val (.int (0 : Int32)), .unset, .unset] [(.long (((own_f4 tt (86400 : Int64)) * (86400 : Int64)) + s0.toInt64))]))
    refine Go.s (fun kz => XT.lstore X22.here hx rfl (hb hby own_d3_45) rfl (l' := #[.val (.ref a), .val (.long tt), .second, .val (.long (own_f4 tt (86400 : Int64))), .second, .val (.int (0 : Int32)), .val (.long (((own_f4 tt (86400 : Int64)) * (86400 : Int64)) + s0.toInt64)), .second]) rfl kz) ?_
    show Go p.tables e below P (T22.setTop (mkF m 47 #[.val (.ref a), .val (.long tt), .second, .val (.long (own_f4 tt (86400 : Int64))), .second, .val (.int (0 : Int32)), .val (.long (((own_f4 tt (86400 : Int64)) * (86400 : Int64)) + s0.toInt64)), .second] []))
    refine Go.s (fun kz => XS.goto X22.here hx rfl (pc0 := 47) (pc' := 67) rfl (hb hby own_d3_47) (by decide) (by decide) kz) ?_
    show Go p.tables e below P (T22.setTop (mkF m 67 #[.val (.ref a), .val (.long tt), .second, .val (.long (own_f4 tt (86400 : Int64))), .second, .val (.int (0 : Int32)), .val (.long (((own_f4 tt (86400 : Int64)) * (86400 : Int64)) + s0.toInt64)), .second] []))
    refine Go.s (fun kz => XT.lload X22.here hx rfl (hb hby own_d3_67) rfl kz) ?_
    show Go p.tables e below P (T22.setTop (mkF m 69 #[.val (.ref a), .val (.long tt), .second, .val (.long (own_f4 tt (86400 : Int64))), .second, .val (.int (0 : Int32)), .val (.long (((own_f4 tt (86400 : Int64)) * (86400 : Int64)) + s0.toInt64)), .second] [(.long (((own_f4 tt (86400 : Int64)) * (86400 : Int64)) + s0.toInt64))]))
    exact Go.retJ X22 hx hlk hret (hb hby own_d3_69) (fun U hU hF => hP U _ _ (by rw [hU, e22]; exact ⟨(Or.inr (Or.inr (Or.inr (Or.inr (⟨rfl, k0, k1⟩))))), N3, rfl⟩) ⟨hF.1, hF.2.1, hF.2.2.mono (by decide) (by decide)⟩)
theorem own_ef8_3 (m : MethodId) (b : Addr) (key : Int32) : entryFrame m #[(.ref b), (.int (0 : Int32)), (.int (3 : Int32)), (.int key)] 8 = mkF m 0 #[.val (.ref b), .val (.int (0 : Int32)), .val (.int (3 : Int32)), .val (.int key), .unset, .unset, .unset, .unset] [] := by
  (first | (simp [entryFrame, mkF, argsToLocals, Value.category]; done) | rfl)
set_option maxRecDepth 65536 in
set_option maxHeartbeats 40000000 in
theorem own_rm8_3 (l : Launch) (Z : State) (a0 : Array Value) (hw : ∀ d ∈ tables_1, d.before a0 Z = true) (ws : List Jvm.Cond) (b kk : Nat) (key s0 s1 s2 : Int32) (h0 : Heap) (n0 : Nat) (Z0 : n0 ≤ h0.size) (V_b : Arv Z h0 b kk .int 3 [.int s0, .int s1, .int s2] (.int (0 : Int32))) :
    Con l Z (⟨"java/util/Arrays", "binarySearch0", "([IIII)I"⟩ : MethodName) jdk_65_method_59_code 8 (some .int) ws ({ frames := 0, cells := 0, slots := 0, locals := 0 } : Room) #[(.ref b), (.int (0 : Int32)), (.int (3 : Int32)), (.int key)] h0 (fun v h L => ((v = some (.int (-4 : Int32)) ∧ s1 < key ∧ s2 < key) ∨ (v = some (.int (-3 : Int32)) ∧ s1 < key ∧ ¬ s2 < key ∧ key < s2) ∨ (v = some (.int (2 : Int32)) ∧ s1 < key ∧ ¬ s2 < key ∧ ¬ key < s2) ∨ (v = some (.int (-2 : Int32)) ∧ ¬ s1 < key ∧ key < s1 ∧ s0 < key) ∨ (v = some (.int (-1 : Int32)) ∧ ¬ s1 < key ∧ key < s1 ∧ ¬ s0 < key ∧ key < s0) ∨ (v = some (.int (0 : Int32)) ∧ ¬ s1 < key ∧ key < s1 ∧ ¬ s0 < key ∧ ¬ key < s0) ∨ (v = some (.int (1 : Int32)) ∧ ¬ s1 < key ∧ ¬ key < s1)) ∧ Fr n0 L ∧ h = h0) := by
  refine Con.intro (plainFor_of_name own_pn_1) ?_
  intro p e s m below meth c s₁ P hx hby hml hown hnm hret hlk hZ X0 e0 hP
  have N0 := Fr.nil n0
  have hown : s.vm.findClass "java/util/Arrays" = some m.cls := hown
  refine Go.cast (own_ef8_3 m b key) ?_
  show Go p.tables e below P (s₁.setTop (mkF m 0 #[.val (.ref b), .val (.int (0 : Int32)), .val (.int (3 : Int32)), .val (.int key), .unset, .unset, .unset, .unset] []))
  refine Go.s (fun kz => XS.iloadN X0.here hx rfl (hb hby own_d8_0) rfl kz) ?_
  show Go p.tables e below P (s₁.setTop (mkF m 1 #[.val (.ref b), .val (.int (0 : Int32)), .val (.int (3 : Int32)), .val (.int key), .unset, .unset, .unset, .unset] [(.int (0 : Int32))]))
  refine Go.s (fun kz => XS.istore X0.here hx rfl (hb hby own_d8_1) rfl (l' := #[.val (.ref b), .val (.int (0 : Int32)), .val (.int (3 : Int32)), .val (.int key), .val (.int (0 : Int32)), .unset, .unset, .unset]) rfl kz) ?_
  show Go p.tables e below P (s₁.setTop (mkF m 3 #[.val (.ref b), .val (.int (0 : Int32)), .val (.int (3 : Int32)), .val (.int key), .val (.int (0 : Int32)), .unset, .unset, .unset] []))
  refine Go.s (fun kz => XS.iloadN X0.here hx rfl (hb hby own_d8_3) rfl kz) ?_
  show Go p.tables e below P (s₁.setTop (mkF m 4 #[.val (.ref b), .val (.int (0 : Int32)), .val (.int (3 : Int32)), .val (.int key), .val (.int (0 : Int32)), .unset, .unset, .unset] [(.int (3 : Int32))]))
  refine Go.s (fun kz => XS.iconst X0.here hx rfl (hb hby own_d8_4) kz) ?_
  show Go p.tables e below P (s₁.setTop (mkF m 5 #[.val (.ref b), .val (.int (0 : Int32)), .val (.int (3 : Int32)), .val (.int key), .val (.int (0 : Int32)), .unset, .unset, .unset] [(.int (1 : Int32)), (.int (3 : Int32))]))
  refine Go.s (fun kz => XS.isub X0.here hx rfl (hb hby own_d8_5) rfl kz) ?_
  show Go p.tables e below P (s₁.setTop (mkF m 6 #[.val (.ref b), .val (.int (0 : Int32)), .val (.int (3 : Int32)), .val (.int key), .val (.int (0 : Int32)), .unset, .unset, .unset] [(.int ((3 : Int32) - (1 : Int32)))]))
  rw [show ((3 : Int32) - (1 : Int32)) = (2 : Int32) from by decide]
  show Go p.tables e below P (s₁.setTop (mkF m 6 #[.val (.ref b), .val (.int (0 : Int32)), .val (.int (3 : Int32)), .val (.int key), .val (.int (0 : Int32)), .unset, .unset, .unset] [(.int (2 : Int32))]))
  refine Go.s (fun kz => XS.istore X0.here hx rfl (hb hby own_d8_6) rfl (l' := #[.val (.ref b), .val (.int (0 : Int32)), .val (.int (3 : Int32)), .val (.int key), .val (.int (0 : Int32)), .val (.int (2 : Int32)), .unset, .unset]) rfl kz) ?_
  show Go p.tables e below P (s₁.setTop (mkF m 8 #[.val (.ref b), .val (.int (0 : Int32)), .val (.int (3 : Int32)), .val (.int key), .val (.int (0 : Int32)), .val (.int (2 : Int32)), .unset, .unset] []))
  refine Go.s (fun kz => XS.iload X0.here hx rfl (hb hby own_d8_8) rfl kz) ?_
  show Go p.tables e below P (s₁.setTop (mkF m 10 #[.val (.ref b), .val (.int (0 : Int32)), .val (.int (3 : Int32)), .val (.int key), .val (.int (0 : Int32)), .val (.int (2 : Int32)), .unset, .unset] [(.int (0 : Int32))]))
  refine Go.s (fun kz => XS.iload X0.here hx rfl (hb hby own_d8_10) rfl kz) ?_
  show Go p.tables e below P (s₁.setTop (mkF m 12 #[.val (.ref b), .val (.int (0 : Int32)), .val (.int (3 : Int32)), .val (.int key), .val (.int (0 : Int32)), .val (.int (2 : Int32)), .unset, .unset] [(.int (2 : Int32)), (.int (0 : Int32))]))
  refine Go.s (fun kz => XS.icmpNo X0.here hx rfl (hb hby own_d8_12) rfl (XT.ii_gt_f (by decide)) kz) ?_
  show Go p.tables e below P (s₁.setTop (mkF m 15 #[.val (.ref b), .val (.int (0 : Int32)), .val (.int (3 : Int32)), .val (.int key), .val (.int (0 : Int32)), .val (.int (2 : Int32)), .unset, .unset] []))
  refine Go.s (fun kz => XS.iload X0.here hx rfl (hb hby own_d8_15) rfl kz) ?_
  show Go p.tables e below P (s₁.setTop (mkF m 17 #[.val (.ref b), .val (.int (0 : Int32)), .val (.int (3 : Int32)), .val (.int key), .val (.int (0 : Int32)), .val (.int (2 : Int32)), .unset, .unset] [(.int (0 : Int32))]))
  refine Go.s (fun kz => XS.iload X0.here hx rfl (hb hby own_d8_17) rfl kz) ?_
  show Go p.tables e below P (s₁.setTop (mkF m 19 #[.val (.ref b), .val (.int (0 : Int32)), .val (.int (3 : Int32)), .val (.int key), .val (.int (0 : Int32)), .val (.int (2 : Int32)), .unset, .unset] [(.int (2 : Int32)), (.int (0 : Int32))]))
  refine Go.s (fun kz => XS.iadd X0.here hx rfl (hb hby own_d8_19) rfl kz) ?_
  show Go p.tables e below P (s₁.setTop (mkF m 20 #[.val (.ref b), .val (.int (0 : Int32)), .val (.int (3 : Int32)), .val (.int key), .val (.int (0 : Int32)), .val (.int (2 : Int32)), .unset, .unset] [(.int ((0 : Int32) + (2 : Int32)))]))
  rw [show ((0 : Int32) + (2 : Int32)) = (2 : Int32) from by decide]
  show Go p.tables e below P (s₁.setTop (mkF m 20 #[.val (.ref b), .val (.int (0 : Int32)), .val (.int (3 : Int32)), .val (.int key), .val (.int (0 : Int32)), .val (.int (2 : Int32)), .unset, .unset] [(.int (2 : Int32))]))
  refine Go.s (fun kz => XS.iconst X0.here hx rfl (hb hby own_d8_20) kz) ?_
  show Go p.tables e below P (s₁.setTop (mkF m 21 #[.val (.ref b), .val (.int (0 : Int32)), .val (.int (3 : Int32)), .val (.int key), .val (.int (0 : Int32)), .val (.int (2 : Int32)), .unset, .unset] [(.int (1 : Int32)), (.int (2 : Int32))]))
  refine Go.s (fun kz => XT.iushr X0.here hx rfl (hb hby own_d8_21) rfl kz) ?_
  show Go p.tables e below P (s₁.setTop (mkF m 22 #[.val (.ref b), .val (.int (0 : Int32)), .val (.int (3 : Int32)), .val (.int key), .val (.int (0 : Int32)), .val (.int (2 : Int32)), .unset, .unset] [(.int (XT.ushr (2 : Int32) (1 : Int32)))]))
  rw [show (XT.ushr (2 : Int32) (1 : Int32)) = (1 : Int32) from by decide]
  show Go p.tables e below P (s₁.setTop (mkF m 22 #[.val (.ref b), .val (.int (0 : Int32)), .val (.int (3 : Int32)), .val (.int key), .val (.int (0 : Int32)), .val (.int (2 : Int32)), .unset, .unset] [(.int (1 : Int32))]))
  refine Go.s (fun kz => XS.istore X0.here hx rfl (hb hby own_d8_22) rfl (l' := #[.val (.ref b), .val (.int (0 : Int32)), .val (.int (3 : Int32)), .val (.int key), .val (.int (0 : Int32)), .val (.int (2 : Int32)), .val (.int (1 : Int32)), .unset]) rfl kz) ?_
  show Go p.tables e below P (s₁.setTop (mkF m 24 #[.val (.ref b), .val (.int (0 : Int32)), .val (.int (3 : Int32)), .val (.int key), .val (.int (0 : Int32)), .val (.int (2 : Int32)), .val (.int (1 : Int32)), .unset] []))
  refine Go.s (fun kz => XS.aloadN X0.here hx rfl (hb hby own_d8_24) rfl rfl kz) ?_
  show Go p.tables e below P (s₁.setTop (mkF m 25 #[.val (.ref b), .val (.int (0 : Int32)), .val (.int (3 : Int32)), .val (.int key), .val (.int (0 : Int32)), .val (.int (2 : Int32)), .val (.int (1 : Int32)), .unset] [(.ref b)]))
  refine Go.s (fun kz => XS.iload X0.here hx rfl (hb hby own_d8_25) rfl kz) ?_
  show Go p.tables e below P (s₁.setTop (mkF m 27 #[.val (.ref b), .val (.int (0 : Int32)), .val (.int (3 : Int32)), .val (.int key), .val (.int (0 : Int32)), .val (.int (2 : Int32)), .val (.int (1 : Int32)), .unset] [(.int (1 : Int32)), (.ref b)]))
  obtain ⟨cl1, Ar1, q1, Sz1, Ng1, Ha1, Ft1⟩ := id V_b
  have hin1 := inb_of (j := (1 : Int32)) Sz1 ⟨by decide, by decide⟩
  have hat1 := Has.at Ha1 hin1 (v := (.int s1)) rfl
  refine Go.s (fun {t} kz => X0.iaload hx (j := (1 : Int32)) (v := (.int s1)) (by rw [e0]; exact Ar1.1) (State.isArrayOf_alike hZ.alike Ar1.2.1) Ar1.2.2 hin1 hat1 (g := (mkF m 27 #[.val (.ref b), .val (.int (0 : Int32)), .val (.int (3 : Int32)), .val (.int key), .val (.int (0 : Int32)), .val (.int (2 : Int32)), .val (.int (1 : Int32)), .unset] [(.int (1 : Int32)), (.ref b)])) rfl rfl (hb hby own_d8_27) _ kz) ?_
  show Go p.tables e below P (s₁.setTop (mkF m 28 #[.val (.ref b), .val (.int (0 : Int32)), .val (.int (3 : Int32)), .val (.int key), .val (.int (0 : Int32)), .val (.int (2 : Int32)), .val (.int (1 : Int32)), .unset] [(.int s1)]))
  refine Go.s (fun kz => XS.istore X0.here hx rfl (hb hby own_d8_28) rfl (l' := #[.val (.ref b), .val (.int (0 : Int32)), .val (.int (3 : Int32)), .val (.int key), .val (.int (0 : Int32)), .val (.int (2 : Int32)), .val (.int (1 : Int32)), .val (.int s1)]) rfl kz) ?_
  show Go p.tables e below P (s₁.setTop (mkF m 30 #[.val (.ref b), .val (.int (0 : Int32)), .val (.int (3 : Int32)), .val (.int key), .val (.int (0 : Int32)), .val (.int (2 : Int32)), .val (.int (1 : Int32)), .val (.int s1)] []))
  refine Go.s (fun kz => XS.iload X0.here hx rfl (hb hby own_d8_30) rfl kz) ?_
  show Go p.tables e below P (s₁.setTop (mkF m 32 #[.val (.ref b), .val (.int (0 : Int32)), .val (.int (3 : Int32)), .val (.int key), .val (.int (0 : Int32)), .val (.int (2 : Int32)), .val (.int (1 : Int32)), .val (.int s1)] [(.int s1)]))
  refine Go.s (fun kz => XS.iloadN X0.here hx rfl (hb hby own_d8_32) rfl kz) ?_
  show Go p.tables e below P (s₁.setTop (mkF m 33 #[.val (.ref b), .val (.int (0 : Int32)), .val (.int (3 : Int32)), .val (.int key), .val (.int (0 : Int32)), .val (.int (2 : Int32)), .val (.int (1 : Int32)), .val (.int s1)] [(.int key), (.int s1)]))
  by_cases hc33 : s1 < key
  · skip
    refine Go.s (fun kz => XS.icmpNo X0.here hx rfl (hb hby own_d8_33) rfl (XT.ii_ge_f hc33) kz) ?_
    show Go p.tables e below P (s₁.setTop (mkF m 36 #[.val (.ref b), .val (.int (0 : Int32)), .val (.int (3 : Int32)), .val (.int key), .val (.int (0 : Int32)), .val (.int (2 : Int32)), .val (.int (1 : Int32)), .val (.int s1)] []))
    refine Go.s (fun kz => XS.iload X0.here hx rfl (hb hby own_d8_36) rfl kz) ?_
    show Go p.tables e below P (s₁.setTop (mkF m 38 #[.val (.ref b), .val (.int (0 : Int32)), .val (.int (3 : Int32)), .val (.int key), .val (.int (0 : Int32)), .val (.int (2 : Int32)), .val (.int (1 : Int32)), .val (.int s1)] [(.int (1 : Int32))]))
    refine Go.s (fun kz => XS.iconst X0.here hx rfl (hb hby own_d8_38) kz) ?_
    show Go p.tables e below P (s₁.setTop (mkF m 39 #[.val (.ref b), .val (.int (0 : Int32)), .val (.int (3 : Int32)), .val (.int key), .val (.int (0 : Int32)), .val (.int (2 : Int32)), .val (.int (1 : Int32)), .val (.int s1)] [(.int (1 : Int32)), (.int (1 : Int32))]))
    refine Go.s (fun kz => XS.iadd X0.here hx rfl (hb hby own_d8_39) rfl kz) ?_
    show Go p.tables e below P (s₁.setTop (mkF m 40 #[.val (.ref b), .val (.int (0 : Int32)), .val (.int (3 : Int32)), .val (.int key), .val (.int (0 : Int32)), .val (.int (2 : Int32)), .val (.int (1 : Int32)), .val (.int s1)] [(.int ((1 : Int32) + (1 : Int32)))]))
    rw [show ((1 : Int32) + (1 : Int32)) = (2 : Int32) from by decide]
    show Go p.tables e below P (s₁.setTop (mkF m 40 #[.val (.ref b), .val (.int (0 : Int32)), .val (.int (3 : Int32)), .val (.int key), .val (.int (0 : Int32)), .val (.int (2 : Int32)), .val (.int (1 : Int32)), .val (.int s1)] [(.int (2 : Int32))]))
    refine Go.s (fun kz => XS.istore X0.here hx rfl (hb hby own_d8_40) rfl (l' := #[.val (.ref b), .val (.int (0 : Int32)), .val (.int (3 : Int32)), .val (.int key), .val (.int (2 : Int32)), .val (.int (2 : Int32)), .val (.int (1 : Int32)), .val (.int s1)]) rfl kz) ?_
    show Go p.tables e below P (s₁.setTop (mkF m 42 #[.val (.ref b), .val (.int (0 : Int32)), .val (.int (3 : Int32)), .val (.int key), .val (.int (2 : Int32)), .val (.int (2 : Int32)), .val (.int (1 : Int32)), .val (.int s1)] []))
    refine Go.s (fun kz => XS.goto X0.here hx rfl (pc0 := 42) (pc' := 63) rfl (hb hby own_d8_42) (by decide) (by decide) kz) ?_
    show Go p.tables e below P (s₁.setTop (mkF m 63 #[.val (.ref b), .val (.int (0 : Int32)), .val (.int (3 : Int32)), .val (.int key), .val (.int (2 : Int32)), .val (.int (2 : Int32)), .val (.int (1 : Int32)), .val (.int s1)] []))
    refine Go.s (fun kz => XS.goto X0.here hx rfl (pc0 := 63) (pc' := 8) rfl (hb hby own_d8_63) (by decide) (by decide) kz) ?_
    show Go p.tables e below P (s₁.setTop (mkF m 8 #[.val (.ref b), .val (.int (0 : Int32)), .val (.int (3 : Int32)), .val (.int key), .val (.int (2 : Int32)), .val (.int (2 : Int32)), .val (.int (1 : Int32)), .val (.int s1)] []))
    refine Go.s (fun kz => XS.iload X0.here hx rfl (hb hby own_d8_8) rfl kz) ?_
    show Go p.tables e below P (s₁.setTop (mkF m 10 #[.val (.ref b), .val (.int (0 : Int32)), .val (.int (3 : Int32)), .val (.int key), .val (.int (2 : Int32)), .val (.int (2 : Int32)), .val (.int (1 : Int32)), .val (.int s1)] [(.int (2 : Int32))]))
    refine Go.s (fun kz => XS.iload X0.here hx rfl (hb hby own_d8_10) rfl kz) ?_
    show Go p.tables e below P (s₁.setTop (mkF m 12 #[.val (.ref b), .val (.int (0 : Int32)), .val (.int (3 : Int32)), .val (.int key), .val (.int (2 : Int32)), .val (.int (2 : Int32)), .val (.int (1 : Int32)), .val (.int s1)] [(.int (2 : Int32)), (.int (2 : Int32))]))
    refine Go.s (fun kz => XS.icmpNo X0.here hx rfl (hb hby own_d8_12) rfl (XT.ii_gt_f (by decide)) kz) ?_
    show Go p.tables e below P (s₁.setTop (mkF m 15 #[.val (.ref b), .val (.int (0 : Int32)), .val (.int (3 : Int32)), .val (.int key), .val (.int (2 : Int32)), .val (.int (2 : Int32)), .val (.int (1 : Int32)), .val (.int s1)] []))
    refine Go.s (fun kz => XS.iload X0.here hx rfl (hb hby own_d8_15) rfl kz) ?_
    show Go p.tables e below P (s₁.setTop (mkF m 17 #[.val (.ref b), .val (.int (0 : Int32)), .val (.int (3 : Int32)), .val (.int key), .val (.int (2 : Int32)), .val (.int (2 : Int32)), .val (.int (1 : Int32)), .val (.int s1)] [(.int (2 : Int32))]))
    refine Go.s (fun kz => XS.iload X0.here hx rfl (hb hby own_d8_17) rfl kz) ?_
    show Go p.tables e below P (s₁.setTop (mkF m 19 #[.val (.ref b), .val (.int (0 : Int32)), .val (.int (3 : Int32)), .val (.int key), .val (.int (2 : Int32)), .val (.int (2 : Int32)), .val (.int (1 : Int32)), .val (.int s1)] [(.int (2 : Int32)), (.int (2 : Int32))]))
    refine Go.s (fun kz => XS.iadd X0.here hx rfl (hb hby own_d8_19) rfl kz) ?_
    show Go p.tables e below P (s₁.setTop (mkF m 20 #[.val (.ref b), .val (.int (0 : Int32)), .val (.int (3 : Int32)), .val (.int key), .val (.int (2 : Int32)), .val (.int (2 : Int32)), .val (.int (1 : Int32)), .val (.int s1)] [(.int ((2 : Int32) + (2 : Int32)))]))
    rw [show ((2 : Int32) + (2 : Int32)) = (4 : Int32) from by decide]
    show Go p.tables e below P (s₁.setTop (mkF m 20 #[.val (.ref b), .val (.int (0 : Int32)), .val (.int (3 : Int32)), .val (.int key), .val (.int (2 : Int32)), .val (.int (2 : Int32)), .val (.int (1 : Int32)), .val (.int s1)] [(.int (4 : Int32))]))
    refine Go.s (fun kz => XS.iconst X0.here hx rfl (hb hby own_d8_20) kz) ?_
    show Go p.tables e below P (s₁.setTop (mkF m 21 #[.val (.ref b), .val (.int (0 : Int32)), .val (.int (3 : Int32)), .val (.int key), .val (.int (2 : Int32)), .val (.int (2 : Int32)), .val (.int (1 : Int32)), .val (.int s1)] [(.int (1 : Int32)), (.int (4 : Int32))]))
    refine Go.s (fun kz => XT.iushr X0.here hx rfl (hb hby own_d8_21) rfl kz) ?_
    show Go p.tables e below P (s₁.setTop (mkF m 22 #[.val (.ref b), .val (.int (0 : Int32)), .val (.int (3 : Int32)), .val (.int key), .val (.int (2 : Int32)), .val (.int (2 : Int32)), .val (.int (1 : Int32)), .val (.int s1)] [(.int (XT.ushr (4 : Int32) (1 : Int32)))]))
    rw [show (XT.ushr (4 : Int32) (1 : Int32)) = (2 : Int32) from by decide]
    show Go p.tables e below P (s₁.setTop (mkF m 22 #[.val (.ref b), .val (.int (0 : Int32)), .val (.int (3 : Int32)), .val (.int key), .val (.int (2 : Int32)), .val (.int (2 : Int32)), .val (.int (1 : Int32)), .val (.int s1)] [(.int (2 : Int32))]))
    refine Go.s (fun kz => XS.istore X0.here hx rfl (hb hby own_d8_22) rfl (l' := #[.val (.ref b), .val (.int (0 : Int32)), .val (.int (3 : Int32)), .val (.int key), .val (.int (2 : Int32)), .val (.int (2 : Int32)), .val (.int (2 : Int32)), .val (.int s1)]) rfl kz) ?_
    show Go p.tables e below P (s₁.setTop (mkF m 24 #[.val (.ref b), .val (.int (0 : Int32)), .val (.int (3 : Int32)), .val (.int key), .val (.int (2 : Int32)), .val (.int (2 : Int32)), .val (.int (2 : Int32)), .val (.int s1)] []))
    refine Go.s (fun kz => XS.aloadN X0.here hx rfl (hb hby own_d8_24) rfl rfl kz) ?_
    show Go p.tables e below P (s₁.setTop (mkF m 25 #[.val (.ref b), .val (.int (0 : Int32)), .val (.int (3 : Int32)), .val (.int key), .val (.int (2 : Int32)), .val (.int (2 : Int32)), .val (.int (2 : Int32)), .val (.int s1)] [(.ref b)]))
    refine Go.s (fun kz => XS.iload X0.here hx rfl (hb hby own_d8_25) rfl kz) ?_
    show Go p.tables e below P (s₁.setTop (mkF m 27 #[.val (.ref b), .val (.int (0 : Int32)), .val (.int (3 : Int32)), .val (.int key), .val (.int (2 : Int32)), .val (.int (2 : Int32)), .val (.int (2 : Int32)), .val (.int s1)] [(.int (2 : Int32)), (.ref b)]))
    obtain ⟨cl2, Ar2, q2, Sz2, Ng2, Ha2, Ft2⟩ := id V_b
    have hin2 := inb_of (j := (2 : Int32)) Sz2 ⟨by decide, by decide⟩
    have hat2 := Has.at Ha2 hin2 (v := (.int s2)) rfl
    refine Go.s (fun {t} kz => X0.iaload hx (j := (2 : Int32)) (v := (.int s2)) (by rw [e0]; exact Ar2.1) (State.isArrayOf_alike hZ.alike Ar2.2.1) Ar2.2.2 hin2 hat2 (g := (mkF m 27 #[.val (.ref b), .val (.int (0 : Int32)), .val (.int (3 : Int32)), .val (.int key), .val (.int (2 : Int32)), .val (.int (2 : Int32)), .val (.int (2 : Int32)), .val (.int s1)] [(.int (2 : Int32)), (.ref b)])) rfl rfl (hb hby own_d8_27) _ kz) ?_
    show Go p.tables e below P (s₁.setTop (mkF m 28 #[.val (.ref b), .val (.int (0 : Int32)), .val (.int (3 : Int32)), .val (.int key), .val (.int (2 : Int32)), .val (.int (2 : Int32)), .val (.int (2 : Int32)), .val (.int s1)] [(.int s2)]))
    refine Go.s (fun kz => XS.istore X0.here hx rfl (hb hby own_d8_28) rfl (l' := #[.val (.ref b), .val (.int (0 : Int32)), .val (.int (3 : Int32)), .val (.int key), .val (.int (2 : Int32)), .val (.int (2 : Int32)), .val (.int (2 : Int32)), .val (.int s2)]) rfl kz) ?_
    show Go p.tables e below P (s₁.setTop (mkF m 30 #[.val (.ref b), .val (.int (0 : Int32)), .val (.int (3 : Int32)), .val (.int key), .val (.int (2 : Int32)), .val (.int (2 : Int32)), .val (.int (2 : Int32)), .val (.int s2)] []))
    refine Go.s (fun kz => XS.iload X0.here hx rfl (hb hby own_d8_30) rfl kz) ?_
    show Go p.tables e below P (s₁.setTop (mkF m 32 #[.val (.ref b), .val (.int (0 : Int32)), .val (.int (3 : Int32)), .val (.int key), .val (.int (2 : Int32)), .val (.int (2 : Int32)), .val (.int (2 : Int32)), .val (.int s2)] [(.int s2)]))
    refine Go.s (fun kz => XS.iloadN X0.here hx rfl (hb hby own_d8_32) rfl kz) ?_
    show Go p.tables e below P (s₁.setTop (mkF m 33 #[.val (.ref b), .val (.int (0 : Int32)), .val (.int (3 : Int32)), .val (.int key), .val (.int (2 : Int32)), .val (.int (2 : Int32)), .val (.int (2 : Int32)), .val (.int s2)] [(.int key), (.int s2)]))
    by_cases hc33' : s2 < key
    · skip
      refine Go.s (fun kz => XS.icmpNo X0.here hx rfl (hb hby own_d8_33) rfl (XT.ii_ge_f hc33') kz) ?_
      show Go p.tables e below P (s₁.setTop (mkF m 36 #[.val (.ref b), .val (.int (0 : Int32)), .val (.int (3 : Int32)), .val (.int key), .val (.int (2 : Int32)), .val (.int (2 : Int32)), .val (.int (2 : Int32)), .val (.int s2)] []))
      refine Go.s (fun kz => XS.iload X0.here hx rfl (hb hby own_d8_36) rfl kz) ?_
      show Go p.tables e below P (s₁.setTop (mkF m 38 #[.val (.ref b), .val (.int (0 : Int32)), .val (.int (3 : Int32)), .val (.int key), .val (.int (2 : Int32)), .val (.int (2 : Int32)), .val (.int (2 : Int32)), .val (.int s2)] [(.int (2 : Int32))]))
      refine Go.s (fun kz => XS.iconst X0.here hx rfl (hb hby own_d8_38) kz) ?_
      show Go p.tables e below P (s₁.setTop (mkF m 39 #[.val (.ref b), .val (.int (0 : Int32)), .val (.int (3 : Int32)), .val (.int key), .val (.int (2 : Int32)), .val (.int (2 : Int32)), .val (.int (2 : Int32)), .val (.int s2)] [(.int (1 : Int32)), (.int (2 : Int32))]))
      refine Go.s (fun kz => XS.iadd X0.here hx rfl (hb hby own_d8_39) rfl kz) ?_
      show Go p.tables e below P (s₁.setTop (mkF m 40 #[.val (.ref b), .val (.int (0 : Int32)), .val (.int (3 : Int32)), .val (.int key), .val (.int (2 : Int32)), .val (.int (2 : Int32)), .val (.int (2 : Int32)), .val (.int s2)] [(.int ((2 : Int32) + (1 : Int32)))]))
      rw [show ((2 : Int32) + (1 : Int32)) = (3 : Int32) from by decide]
      show Go p.tables e below P (s₁.setTop (mkF m 40 #[.val (.ref b), .val (.int (0 : Int32)), .val (.int (3 : Int32)), .val (.int key), .val (.int (2 : Int32)), .val (.int (2 : Int32)), .val (.int (2 : Int32)), .val (.int s2)] [(.int (3 : Int32))]))
      refine Go.s (fun kz => XS.istore X0.here hx rfl (hb hby own_d8_40) rfl (l' := #[.val (.ref b), .val (.int (0 : Int32)), .val (.int (3 : Int32)), .val (.int key), .val (.int (3 : Int32)), .val (.int (2 : Int32)), .val (.int (2 : Int32)), .val (.int s2)]) rfl kz) ?_
      show Go p.tables e below P (s₁.setTop (mkF m 42 #[.val (.ref b), .val (.int (0 : Int32)), .val (.int (3 : Int32)), .val (.int key), .val (.int (3 : Int32)), .val (.int (2 : Int32)), .val (.int (2 : Int32)), .val (.int s2)] []))
      refine Go.s (fun kz => XS.goto X0.here hx rfl (pc0 := 42) (pc' := 63) rfl (hb hby own_d8_42) (by decide) (by decide) kz) ?_
      show Go p.tables e below P (s₁.setTop (mkF m 63 #[.val (.ref b), .val (.int (0 : Int32)), .val (.int (3 : Int32)), .val (.int key), .val (.int (3 : Int32)), .val (.int (2 : Int32)), .val (.int (2 : Int32)), .val (.int s2)] []))
      refine Go.s (fun kz => XS.goto X0.here hx rfl (pc0 := 63) (pc' := 8) rfl (hb hby own_d8_63) (by decide) (by decide) kz) ?_
      show Go p.tables e below P (s₁.setTop (mkF m 8 #[.val (.ref b), .val (.int (0 : Int32)), .val (.int (3 : Int32)), .val (.int key), .val (.int (3 : Int32)), .val (.int (2 : Int32)), .val (.int (2 : Int32)), .val (.int s2)] []))
      refine Go.s (fun kz => XS.iload X0.here hx rfl (hb hby own_d8_8) rfl kz) ?_
      show Go p.tables e below P (s₁.setTop (mkF m 10 #[.val (.ref b), .val (.int (0 : Int32)), .val (.int (3 : Int32)), .val (.int key), .val (.int (3 : Int32)), .val (.int (2 : Int32)), .val (.int (2 : Int32)), .val (.int s2)] [(.int (3 : Int32))]))
      refine Go.s (fun kz => XS.iload X0.here hx rfl (hb hby own_d8_10) rfl kz) ?_
      show Go p.tables e below P (s₁.setTop (mkF m 12 #[.val (.ref b), .val (.int (0 : Int32)), .val (.int (3 : Int32)), .val (.int key), .val (.int (3 : Int32)), .val (.int (2 : Int32)), .val (.int (2 : Int32)), .val (.int s2)] [(.int (2 : Int32)), (.int (3 : Int32))]))
      refine Go.s (fun kz => XS.icmpYes X0.here hx rfl (pc0 := 12) (pc' := 66) rfl (hb hby own_d8_12) rfl (XT.ii_gt_t (by decide)) (by decide) (by decide) kz) ?_
      show Go p.tables e below P (s₁.setTop (mkF m 66 #[.val (.ref b), .val (.int (0 : Int32)), .val (.int (3 : Int32)), .val (.int key), .val (.int (3 : Int32)), .val (.int (2 : Int32)), .val (.int (2 : Int32)), .val (.int s2)] []))
      refine Go.s (fun kz => XS.iload X0.here hx rfl (hb hby own_d8_66) rfl kz) ?_
      show Go p.tables e below P (s₁.setTop (mkF m 68 #[.val (.ref b), .val (.int (0 : Int32)), .val (.int (3 : Int32)), .val (.int key), .val (.int (3 : Int32)), .val (.int (2 : Int32)), .val (.int (2 : Int32)), .val (.int s2)] [(.int (3 : Int32))]))
      refine Go.s (fun kz => XS.iconst X0.here hx rfl (hb hby own_d8_68) kz) ?_
      show Go p.tables e below P (s₁.setTop (mkF m 69 #[.val (.ref b), .val (.int (0 : Int32)), .val (.int (3 : Int32)), .val (.int key), .val (.int (3 : Int32)), .val (.int (2 : Int32)), .val (.int (2 : Int32)), .val (.int s2)] [(.int (1 : Int32)), (.int (3 : Int32))]))
      refine Go.s (fun kz => XS.iadd X0.here hx rfl (hb hby own_d8_69) rfl kz) ?_
      show Go p.tables e below P (s₁.setTop (mkF m 70 #[.val (.ref b), .val (.int (0 : Int32)), .val (.int (3 : Int32)), .val (.int key), .val (.int (3 : Int32)), .val (.int (2 : Int32)), .val (.int (2 : Int32)), .val (.int s2)] [(.int ((3 : Int32) + (1 : Int32)))]))
      rw [show ((3 : Int32) + (1 : Int32)) = (4 : Int32) from by decide]
      show Go p.tables e below P (s₁.setTop (mkF m 70 #[.val (.ref b), .val (.int (0 : Int32)), .val (.int (3 : Int32)), .val (.int key), .val (.int (3 : Int32)), .val (.int (2 : Int32)), .val (.int (2 : Int32)), .val (.int s2)] [(.int (4 : Int32))]))
      refine Go.s (fun kz => XS.ineg X0.here hx rfl (hb hby own_d8_70) rfl kz) ?_
      show Go p.tables e below P (s₁.setTop (mkF m 71 #[.val (.ref b), .val (.int (0 : Int32)), .val (.int (3 : Int32)), .val (.int key), .val (.int (3 : Int32)), .val (.int (2 : Int32)), .val (.int (2 : Int32)), .val (.int s2)] [(.int (-(4 : Int32)))]))
      rw [show (-(4 : Int32)) = (-4 : Int32) from by decide]
      show Go p.tables e below P (s₁.setTop (mkF m 71 #[.val (.ref b), .val (.int (0 : Int32)), .val (.int (3 : Int32)), .val (.int key), .val (.int (3 : Int32)), .val (.int (2 : Int32)), .val (.int (2 : Int32)), .val (.int s2)] [(.int (-4 : Int32))]))
      exact Go.retI X0 hx hlk hret (hb hby own_d8_71) (fun U hU hF => hP U _ _ (by rw [hU, e0]; exact ⟨(Or.inl (⟨rfl, hc33, hc33'⟩)), N0, rfl⟩) ⟨hF.1, hF.2.1, hF.2.2.mono (by decide) (by decide)⟩)
    · skip
      refine Go.s (fun kz => XS.icmpYes X0.here hx rfl (pc0 := 33) (pc' := 45) rfl (hb hby own_d8_33) rfl (XT.ii_ge_t hc33') (by decide) (by decide) kz) ?_
      show Go p.tables e below P (s₁.setTop (mkF m 45 #[.val (.ref b), .val (.int (0 : Int32)), .val (.int (3 : Int32)), .val (.int key), .val (.int (2 : Int32)), .val (.int (2 : Int32)), .val (.int (2 : Int32)), .val (.int s2)] []))
      refine Go.s (fun kz => XS.iload X0.here hx rfl (hb hby own_d8_45) rfl kz) ?_
      show Go p.tables e below P (s₁.setTop (mkF m 47 #[.val (.ref b), .val (.int (0 : Int32)), .val (.int (3 : Int32)), .val (.int key), .val (.int (2 : Int32)), .val (.int (2 : Int32)), .val (.int (2 : Int32)), .val (.int s2)] [(.int s2)]))
      refine Go.s (fun kz => XS.iloadN X0.here hx rfl (hb hby own_d8_47) rfl kz) ?_
      show Go p.tables e below P (s₁.setTop (mkF m 48 #[.val (.ref b), .val (.int (0 : Int32)), .val (.int (3 : Int32)), .val (.int key), .val (.int (2 : Int32)), .val (.int (2 : Int32)), .val (.int (2 : Int32)), .val (.int s2)] [(.int key), (.int s2)]))
      by_cases hc48 : key < s2
      · skip
        refine Go.s (fun kz => XS.icmpNo X0.here hx rfl (hb hby own_d8_48) rfl (XT.ii_le_f hc48) kz) ?_
        show Go p.tables e below P (s₁.setTop (mkF m 51 #[.val (.ref b), .val (.int (0 : Int32)), .val (.int (3 : Int32)), .val (.int key), .val (.int (2 : Int32)), .val (.int (2 : Int32)), .val (.int (2 : Int32)), .val (.int s2)] []))
        refine Go.s (fun kz => XS.iload X0.here hx rfl (hb hby own_d8_51) rfl kz) ?_
        show Go p.tables e below P (s₁.setTop (mkF m 53 #[.val (.ref b), .val (.int (0 : Int32)), .val (.int (3 : Int32)), .val (.int key), .val (.int (2 : Int32)), .val (.int (2 : Int32)), .val (.int (2 : Int32)), .val (.int s2)] [(.int (2 : Int32))]))
        refine Go.s (fun kz => XS.iconst X0.here hx rfl (hb hby own_d8_53) kz) ?_
        show Go p.tables e below P (s₁.setTop (mkF m 54 #[.val (.ref b), .val (.int (0 : Int32)), .val (.int (3 : Int32)), .val (.int key), .val (.int (2 : Int32)), .val (.int (2 : Int32)), .val (.int (2 : Int32)), .val (.int s2)] [(.int (1 : Int32)), (.int (2 : Int32))]))
        refine Go.s (fun kz => XS.isub X0.here hx rfl (hb hby own_d8_54) rfl kz) ?_
        show Go p.tables e below P (s₁.setTop (mkF m 55 #[.val (.ref b), .val (.int (0 : Int32)), .val (.int (3 : Int32)), .val (.int key), .val (.int (2 : Int32)), .val (.int (2 : Int32)), .val (.int (2 : Int32)), .val (.int s2)] [(.int ((2 : Int32) - (1 : Int32)))]))
        rw [show ((2 : Int32) - (1 : Int32)) = (1 : Int32) from by decide]
        show Go p.tables e below P (s₁.setTop (mkF m 55 #[.val (.ref b), .val (.int (0 : Int32)), .val (.int (3 : Int32)), .val (.int key), .val (.int (2 : Int32)), .val (.int (2 : Int32)), .val (.int (2 : Int32)), .val (.int s2)] [(.int (1 : Int32))]))
        refine Go.s (fun kz => XS.istore X0.here hx rfl (hb hby own_d8_55) rfl (l' := #[.val (.ref b), .val (.int (0 : Int32)), .val (.int (3 : Int32)), .val (.int key), .val (.int (2 : Int32)), .val (.int (1 : Int32)), .val (.int (2 : Int32)), .val (.int s2)]) rfl kz) ?_
        show Go p.tables e below P (s₁.setTop (mkF m 57 #[.val (.ref b), .val (.int (0 : Int32)), .val (.int (3 : Int32)), .val (.int key), .val (.int (2 : Int32)), .val (.int (1 : Int32)), .val (.int (2 : Int32)), .val (.int s2)] []))
        refine Go.s (fun kz => XS.goto X0.here hx rfl (pc0 := 57) (pc' := 63) rfl (hb hby own_d8_57) (by decide) (by decide) kz) ?_
        show Go p.tables e below P (s₁.setTop (mkF m 63 #[.val (.ref b), .val (.int (0 : Int32)), .val (.int (3 : Int32)), .val (.int key), .val (.int (2 : Int32)), .val (.int (1 : Int32)), .val (.int (2 : Int32)), .val (.int s2)] []))
        refine Go.s (fun kz => XS.goto X0.here hx rfl (pc0 := 63) (pc' := 8) rfl (hb hby own_d8_63) (by decide) (by decide) kz) ?_
        show Go p.tables e below P (s₁.setTop (mkF m 8 #[.val (.ref b), .val (.int (0 : Int32)), .val (.int (3 : Int32)), .val (.int key), .val (.int (2 : Int32)), .val (.int (1 : Int32)), .val (.int (2 : Int32)), .val (.int s2)] []))
        refine Go.s (fun kz => XS.iload X0.here hx rfl (hb hby own_d8_8) rfl kz) ?_
        show Go p.tables e below P (s₁.setTop (mkF m 10 #[.val (.ref b), .val (.int (0 : Int32)), .val (.int (3 : Int32)), .val (.int key), .val (.int (2 : Int32)), .val (.int (1 : Int32)), .val (.int (2 : Int32)), .val (.int s2)] [(.int (2 : Int32))]))
        refine Go.s (fun kz => XS.iload X0.here hx rfl (hb hby own_d8_10) rfl kz) ?_
        show Go p.tables e below P (s₁.setTop (mkF m 12 #[.val (.ref b), .val (.int (0 : Int32)), .val (.int (3 : Int32)), .val (.int key), .val (.int (2 : Int32)), .val (.int (1 : Int32)), .val (.int (2 : Int32)), .val (.int s2)] [(.int (1 : Int32)), (.int (2 : Int32))]))
        refine Go.s (fun kz => XS.icmpYes X0.here hx rfl (pc0 := 12) (pc' := 66) rfl (hb hby own_d8_12) rfl (XT.ii_gt_t (by decide)) (by decide) (by decide) kz) ?_
        show Go p.tables e below P (s₁.setTop (mkF m 66 #[.val (.ref b), .val (.int (0 : Int32)), .val (.int (3 : Int32)), .val (.int key), .val (.int (2 : Int32)), .val (.int (1 : Int32)), .val (.int (2 : Int32)), .val (.int s2)] []))
        refine Go.s (fun kz => XS.iload X0.here hx rfl (hb hby own_d8_66) rfl kz) ?_
        show Go p.tables e below P (s₁.setTop (mkF m 68 #[.val (.ref b), .val (.int (0 : Int32)), .val (.int (3 : Int32)), .val (.int key), .val (.int (2 : Int32)), .val (.int (1 : Int32)), .val (.int (2 : Int32)), .val (.int s2)] [(.int (2 : Int32))]))
        refine Go.s (fun kz => XS.iconst X0.here hx rfl (hb hby own_d8_68) kz) ?_
        show Go p.tables e below P (s₁.setTop (mkF m 69 #[.val (.ref b), .val (.int (0 : Int32)), .val (.int (3 : Int32)), .val (.int key), .val (.int (2 : Int32)), .val (.int (1 : Int32)), .val (.int (2 : Int32)), .val (.int s2)] [(.int (1 : Int32)), (.int (2 : Int32))]))
        refine Go.s (fun kz => XS.iadd X0.here hx rfl (hb hby own_d8_69) rfl kz) ?_
        show Go p.tables e below P (s₁.setTop (mkF m 70 #[.val (.ref b), .val (.int (0 : Int32)), .val (.int (3 : Int32)), .val (.int key), .val (.int (2 : Int32)), .val (.int (1 : Int32)), .val (.int (2 : Int32)), .val (.int s2)] [(.int ((2 : Int32) + (1 : Int32)))]))
        rw [show ((2 : Int32) + (1 : Int32)) = (3 : Int32) from by decide]
        show Go p.tables e below P (s₁.setTop (mkF m 70 #[.val (.ref b), .val (.int (0 : Int32)), .val (.int (3 : Int32)), .val (.int key), .val (.int (2 : Int32)), .val (.int (1 : Int32)), .val (.int (2 : Int32)), .val (.int s2)] [(.int (3 : Int32))]))
        refine Go.s (fun kz => XS.ineg X0.here hx rfl (hb hby own_d8_70) rfl kz) ?_
        show Go p.tables e below P (s₁.setTop (mkF m 71 #[.val (.ref b), .val (.int (0 : Int32)), .val (.int (3 : Int32)), .val (.int key), .val (.int (2 : Int32)), .val (.int (1 : Int32)), .val (.int (2 : Int32)), .val (.int s2)] [(.int (-(3 : Int32)))]))
        rw [show (-(3 : Int32)) = (-3 : Int32) from by decide]
        show Go p.tables e below P (s₁.setTop (mkF m 71 #[.val (.ref b), .val (.int (0 : Int32)), .val (.int (3 : Int32)), .val (.int key), .val (.int (2 : Int32)), .val (.int (1 : Int32)), .val (.int (2 : Int32)), .val (.int s2)] [(.int (-3 : Int32))]))
        exact Go.retI X0 hx hlk hret (hb hby own_d8_71) (fun U hU hF => hP U _ _ (by rw [hU, e0]; exact ⟨(Or.inr (Or.inl (⟨rfl, hc33, hc33', hc48⟩))), N0, rfl⟩) ⟨hF.1, hF.2.1, hF.2.2.mono (by decide) (by decide)⟩)
      · skip
        refine Go.s (fun kz => XS.icmpYes X0.here hx rfl (pc0 := 48) (pc' := 60) rfl (hb hby own_d8_48) rfl (XT.ii_le_t hc48) (by decide) (by decide) kz) ?_
        show Go p.tables e below P (s₁.setTop (mkF m 60 #[.val (.ref b), .val (.int (0 : Int32)), .val (.int (3 : Int32)), .val (.int key), .val (.int (2 : Int32)), .val (.int (2 : Int32)), .val (.int (2 : Int32)), .val (.int s2)] []))
        refine Go.s (fun kz => XS.iload X0.here hx rfl (hb hby own_d8_60) rfl kz) ?_
        show Go p.tables e below P (s₁.setTop (mkF m 62 #[.val (.ref b), .val (.int (0 : Int32)), .val (.int (3 : Int32)), .val (.int key), .val (.int (2 : Int32)), .val (.int (2 : Int32)), .val (.int (2 : Int32)), .val (.int s2)] [(.int (2 : Int32))]))
        exact Go.retI X0 hx hlk hret (hb hby own_d8_62) (fun U hU hF => hP U _ _ (by rw [hU, e0]; exact ⟨(Or.inr (Or.inr (Or.inl (⟨rfl, hc33, hc33', hc48⟩)))), N0, rfl⟩) ⟨hF.1, hF.2.1, hF.2.2.mono (by decide) (by decide)⟩)
  · skip
    refine Go.s (fun kz => XS.icmpYes X0.here hx rfl (pc0 := 33) (pc' := 45) rfl (hb hby own_d8_33) rfl (XT.ii_ge_t hc33) (by decide) (by decide) kz) ?_
    show Go p.tables e below P (s₁.setTop (mkF m 45 #[.val (.ref b), .val (.int (0 : Int32)), .val (.int (3 : Int32)), .val (.int key), .val (.int (0 : Int32)), .val (.int (2 : Int32)), .val (.int (1 : Int32)), .val (.int s1)] []))
    refine Go.s (fun kz => XS.iload X0.here hx rfl (hb hby own_d8_45) rfl kz) ?_
    show Go p.tables e below P (s₁.setTop (mkF m 47 #[.val (.ref b), .val (.int (0 : Int32)), .val (.int (3 : Int32)), .val (.int key), .val (.int (0 : Int32)), .val (.int (2 : Int32)), .val (.int (1 : Int32)), .val (.int s1)] [(.int s1)]))
    refine Go.s (fun kz => XS.iloadN X0.here hx rfl (hb hby own_d8_47) rfl kz) ?_
    show Go p.tables e below P (s₁.setTop (mkF m 48 #[.val (.ref b), .val (.int (0 : Int32)), .val (.int (3 : Int32)), .val (.int key), .val (.int (0 : Int32)), .val (.int (2 : Int32)), .val (.int (1 : Int32)), .val (.int s1)] [(.int key), (.int s1)]))
    by_cases hc48 : key < s1
    · skip
      refine Go.s (fun kz => XS.icmpNo X0.here hx rfl (hb hby own_d8_48) rfl (XT.ii_le_f hc48) kz) ?_
      show Go p.tables e below P (s₁.setTop (mkF m 51 #[.val (.ref b), .val (.int (0 : Int32)), .val (.int (3 : Int32)), .val (.int key), .val (.int (0 : Int32)), .val (.int (2 : Int32)), .val (.int (1 : Int32)), .val (.int s1)] []))
      refine Go.s (fun kz => XS.iload X0.here hx rfl (hb hby own_d8_51) rfl kz) ?_
      show Go p.tables e below P (s₁.setTop (mkF m 53 #[.val (.ref b), .val (.int (0 : Int32)), .val (.int (3 : Int32)), .val (.int key), .val (.int (0 : Int32)), .val (.int (2 : Int32)), .val (.int (1 : Int32)), .val (.int s1)] [(.int (1 : Int32))]))
      refine Go.s (fun kz => XS.iconst X0.here hx rfl (hb hby own_d8_53) kz) ?_
      show Go p.tables e below P (s₁.setTop (mkF m 54 #[.val (.ref b), .val (.int (0 : Int32)), .val (.int (3 : Int32)), .val (.int key), .val (.int (0 : Int32)), .val (.int (2 : Int32)), .val (.int (1 : Int32)), .val (.int s1)] [(.int (1 : Int32)), (.int (1 : Int32))]))
      refine Go.s (fun kz => XS.isub X0.here hx rfl (hb hby own_d8_54) rfl kz) ?_
      show Go p.tables e below P (s₁.setTop (mkF m 55 #[.val (.ref b), .val (.int (0 : Int32)), .val (.int (3 : Int32)), .val (.int key), .val (.int (0 : Int32)), .val (.int (2 : Int32)), .val (.int (1 : Int32)), .val (.int s1)] [(.int ((1 : Int32) - (1 : Int32)))]))
      rw [show ((1 : Int32) - (1 : Int32)) = (0 : Int32) from by decide]
      show Go p.tables e below P (s₁.setTop (mkF m 55 #[.val (.ref b), .val (.int (0 : Int32)), .val (.int (3 : Int32)), .val (.int key), .val (.int (0 : Int32)), .val (.int (2 : Int32)), .val (.int (1 : Int32)), .val (.int s1)] [(.int (0 : Int32))]))
      refine Go.s (fun kz => XS.istore X0.here hx rfl (hb hby own_d8_55) rfl (l' := #[.val (.ref b), .val (.int (0 : Int32)), .val (.int (3 : Int32)), .val (.int key), .val (.int (0 : Int32)), .val (.int (0 : Int32)), .val (.int (1 : Int32)), .val (.int s1)]) rfl kz) ?_
      show Go p.tables e below P (s₁.setTop (mkF m 57 #[.val (.ref b), .val (.int (0 : Int32)), .val (.int (3 : Int32)), .val (.int key), .val (.int (0 : Int32)), .val (.int (0 : Int32)), .val (.int (1 : Int32)), .val (.int s1)] []))
      refine Go.s (fun kz => XS.goto X0.here hx rfl (pc0 := 57) (pc' := 63) rfl (hb hby own_d8_57) (by decide) (by decide) kz) ?_
      show Go p.tables e below P (s₁.setTop (mkF m 63 #[.val (.ref b), .val (.int (0 : Int32)), .val (.int (3 : Int32)), .val (.int key), .val (.int (0 : Int32)), .val (.int (0 : Int32)), .val (.int (1 : Int32)), .val (.int s1)] []))
      refine Go.s (fun kz => XS.goto X0.here hx rfl (pc0 := 63) (pc' := 8) rfl (hb hby own_d8_63) (by decide) (by decide) kz) ?_
      show Go p.tables e below P (s₁.setTop (mkF m 8 #[.val (.ref b), .val (.int (0 : Int32)), .val (.int (3 : Int32)), .val (.int key), .val (.int (0 : Int32)), .val (.int (0 : Int32)), .val (.int (1 : Int32)), .val (.int s1)] []))
      refine Go.s (fun kz => XS.iload X0.here hx rfl (hb hby own_d8_8) rfl kz) ?_
      show Go p.tables e below P (s₁.setTop (mkF m 10 #[.val (.ref b), .val (.int (0 : Int32)), .val (.int (3 : Int32)), .val (.int key), .val (.int (0 : Int32)), .val (.int (0 : Int32)), .val (.int (1 : Int32)), .val (.int s1)] [(.int (0 : Int32))]))
      refine Go.s (fun kz => XS.iload X0.here hx rfl (hb hby own_d8_10) rfl kz) ?_
      show Go p.tables e below P (s₁.setTop (mkF m 12 #[.val (.ref b), .val (.int (0 : Int32)), .val (.int (3 : Int32)), .val (.int key), .val (.int (0 : Int32)), .val (.int (0 : Int32)), .val (.int (1 : Int32)), .val (.int s1)] [(.int (0 : Int32)), (.int (0 : Int32))]))
      refine Go.s (fun kz => XS.icmpNo X0.here hx rfl (hb hby own_d8_12) rfl (XT.ii_gt_f (by decide)) kz) ?_
      show Go p.tables e below P (s₁.setTop (mkF m 15 #[.val (.ref b), .val (.int (0 : Int32)), .val (.int (3 : Int32)), .val (.int key), .val (.int (0 : Int32)), .val (.int (0 : Int32)), .val (.int (1 : Int32)), .val (.int s1)] []))
      refine Go.s (fun kz => XS.iload X0.here hx rfl (hb hby own_d8_15) rfl kz) ?_
      show Go p.tables e below P (s₁.setTop (mkF m 17 #[.val (.ref b), .val (.int (0 : Int32)), .val (.int (3 : Int32)), .val (.int key), .val (.int (0 : Int32)), .val (.int (0 : Int32)), .val (.int (1 : Int32)), .val (.int s1)] [(.int (0 : Int32))]))
      refine Go.s (fun kz => XS.iload X0.here hx rfl (hb hby own_d8_17) rfl kz) ?_
      show Go p.tables e below P (s₁.setTop (mkF m 19 #[.val (.ref b), .val (.int (0 : Int32)), .val (.int (3 : Int32)), .val (.int key), .val (.int (0 : Int32)), .val (.int (0 : Int32)), .val (.int (1 : Int32)), .val (.int s1)] [(.int (0 : Int32)), (.int (0 : Int32))]))
      refine Go.s (fun kz => XS.iadd X0.here hx rfl (hb hby own_d8_19) rfl kz) ?_
      show Go p.tables e below P (s₁.setTop (mkF m 20 #[.val (.ref b), .val (.int (0 : Int32)), .val (.int (3 : Int32)), .val (.int key), .val (.int (0 : Int32)), .val (.int (0 : Int32)), .val (.int (1 : Int32)), .val (.int s1)] [(.int ((0 : Int32) + (0 : Int32)))]))
      rw [show ((0 : Int32) + (0 : Int32)) = (0 : Int32) from by decide]
      show Go p.tables e below P (s₁.setTop (mkF m 20 #[.val (.ref b), .val (.int (0 : Int32)), .val (.int (3 : Int32)), .val (.int key), .val (.int (0 : Int32)), .val (.int (0 : Int32)), .val (.int (1 : Int32)), .val (.int s1)] [(.int (0 : Int32))]))
      refine Go.s (fun kz => XS.iconst X0.here hx rfl (hb hby own_d8_20) kz) ?_
      show Go p.tables e below P (s₁.setTop (mkF m 21 #[.val (.ref b), .val (.int (0 : Int32)), .val (.int (3 : Int32)), .val (.int key), .val (.int (0 : Int32)), .val (.int (0 : Int32)), .val (.int (1 : Int32)), .val (.int s1)] [(.int (1 : Int32)), (.int (0 : Int32))]))
      refine Go.s (fun kz => XT.iushr X0.here hx rfl (hb hby own_d8_21) rfl kz) ?_
      show Go p.tables e below P (s₁.setTop (mkF m 22 #[.val (.ref b), .val (.int (0 : Int32)), .val (.int (3 : Int32)), .val (.int key), .val (.int (0 : Int32)), .val (.int (0 : Int32)), .val (.int (1 : Int32)), .val (.int s1)] [(.int (XT.ushr (0 : Int32) (1 : Int32)))]))
      rw [show (XT.ushr (0 : Int32) (1 : Int32)) = (0 : Int32) from by decide]
      show Go p.tables e below P (s₁.setTop (mkF m 22 #[.val (.ref b), .val (.int (0 : Int32)), .val (.int (3 : Int32)), .val (.int key), .val (.int (0 : Int32)), .val (.int (0 : Int32)), .val (.int (1 : Int32)), .val (.int s1)] [(.int (0 : Int32))]))
      refine Go.s (fun kz => XS.istore X0.here hx rfl (hb hby own_d8_22) rfl (l' := #[.val (.ref b), .val (.int (0 : Int32)), .val (.int (3 : Int32)), .val (.int key), .val (.int (0 : Int32)), .val (.int (0 : Int32)), .val (.int (0 : Int32)), .val (.int s1)]) rfl kz) ?_
      show Go p.tables e below P (s₁.setTop (mkF m 24 #[.val (.ref b), .val (.int (0 : Int32)), .val (.int (3 : Int32)), .val (.int key), .val (.int (0 : Int32)), .val (.int (0 : Int32)), .val (.int (0 : Int32)), .val (.int s1)] []))
      refine Go.s (fun kz => XS.aloadN X0.here hx rfl (hb hby own_d8_24) rfl rfl kz) ?_
      show Go p.tables e below P (s₁.setTop (mkF m 25 #[.val (.ref b), .val (.int (0 : Int32)), .val (.int (3 : Int32)), .val (.int key), .val (.int (0 : Int32)), .val (.int (0 : Int32)), .val (.int (0 : Int32)), .val (.int s1)] [(.ref b)]))
      refine Go.s (fun kz => XS.iload X0.here hx rfl (hb hby own_d8_25) rfl kz) ?_
      show Go p.tables e below P (s₁.setTop (mkF m 27 #[.val (.ref b), .val (.int (0 : Int32)), .val (.int (3 : Int32)), .val (.int key), .val (.int (0 : Int32)), .val (.int (0 : Int32)), .val (.int (0 : Int32)), .val (.int s1)] [(.int (0 : Int32)), (.ref b)]))
      obtain ⟨cl3, Ar3, q3, Sz3, Ng3, Ha3, Ft3⟩ := id V_b
      have hin3 := inb_of (j := (0 : Int32)) Sz3 ⟨by decide, by decide⟩
      have hat3 := Has.at Ha3 hin3 (v := (.int s0)) rfl
      refine Go.s (fun {t} kz => X0.iaload hx (j := (0 : Int32)) (v := (.int s0)) (by rw [e0]; exact Ar3.1) (State.isArrayOf_alike hZ.alike Ar3.2.1) Ar3.2.2 hin3 hat3 (g := (mkF m 27 #[.val (.ref b), .val (.int (0 : Int32)), .val (.int (3 : Int32)), .val (.int key), .val (.int (0 : Int32)), .val (.int (0 : Int32)), .val (.int (0 : Int32)), .val (.int s1)] [(.int (0 : Int32)), (.ref b)])) rfl rfl (hb hby own_d8_27) _ kz) ?_
      show Go p.tables e below P (s₁.setTop (mkF m 28 #[.val (.ref b), .val (.int (0 : Int32)), .val (.int (3 : Int32)), .val (.int key), .val (.int (0 : Int32)), .val (.int (0 : Int32)), .val (.int (0 : Int32)), .val (.int s1)] [(.int s0)]))
      refine Go.s (fun kz => XS.istore X0.here hx rfl (hb hby own_d8_28) rfl (l' := #[.val (.ref b), .val (.int (0 : Int32)), .val (.int (3 : Int32)), .val (.int key), .val (.int (0 : Int32)), .val (.int (0 : Int32)), .val (.int (0 : Int32)), .val (.int s0)]) rfl kz) ?_
      show Go p.tables e below P (s₁.setTop (mkF m 30 #[.val (.ref b), .val (.int (0 : Int32)), .val (.int (3 : Int32)), .val (.int key), .val (.int (0 : Int32)), .val (.int (0 : Int32)), .val (.int (0 : Int32)), .val (.int s0)] []))
      refine Go.s (fun kz => XS.iload X0.here hx rfl (hb hby own_d8_30) rfl kz) ?_
      show Go p.tables e below P (s₁.setTop (mkF m 32 #[.val (.ref b), .val (.int (0 : Int32)), .val (.int (3 : Int32)), .val (.int key), .val (.int (0 : Int32)), .val (.int (0 : Int32)), .val (.int (0 : Int32)), .val (.int s0)] [(.int s0)]))
      refine Go.s (fun kz => XS.iloadN X0.here hx rfl (hb hby own_d8_32) rfl kz) ?_
      show Go p.tables e below P (s₁.setTop (mkF m 33 #[.val (.ref b), .val (.int (0 : Int32)), .val (.int (3 : Int32)), .val (.int key), .val (.int (0 : Int32)), .val (.int (0 : Int32)), .val (.int (0 : Int32)), .val (.int s0)] [(.int key), (.int s0)]))
      by_cases hc33' : s0 < key
      · skip
        refine Go.s (fun kz => XS.icmpNo X0.here hx rfl (hb hby own_d8_33) rfl (XT.ii_ge_f hc33') kz) ?_
        show Go p.tables e below P (s₁.setTop (mkF m 36 #[.val (.ref b), .val (.int (0 : Int32)), .val (.int (3 : Int32)), .val (.int key), .val (.int (0 : Int32)), .val (.int (0 : Int32)), .val (.int (0 : Int32)), .val (.int s0)] []))
        refine Go.s (fun kz => XS.iload X0.here hx rfl (hb hby own_d8_36) rfl kz) ?_
        show Go p.tables e below P (s₁.setTop (mkF m 38 #[.val (.ref b), .val (.int (0 : Int32)), .val (.int (3 : Int32)), .val (.int key), .val (.int (0 : Int32)), .val (.int (0 : Int32)), .val (.int (0 : Int32)), .val (.int s0)] [(.int (0 : Int32))]))
        refine Go.s (fun kz => XS.iconst X0.here hx rfl (hb hby own_d8_38) kz) ?_
        show Go p.tables e below P (s₁.setTop (mkF m 39 #[.val (.ref b), .val (.int (0 : Int32)), .val (.int (3 : Int32)), .val (.int key), .val (.int (0 : Int32)), .val (.int (0 : Int32)), .val (.int (0 : Int32)), .val (.int s0)] [(.int (1 : Int32)), (.int (0 : Int32))]))
        refine Go.s (fun kz => XS.iadd X0.here hx rfl (hb hby own_d8_39) rfl kz) ?_
        show Go p.tables e below P (s₁.setTop (mkF m 40 #[.val (.ref b), .val (.int (0 : Int32)), .val (.int (3 : Int32)), .val (.int key), .val (.int (0 : Int32)), .val (.int (0 : Int32)), .val (.int (0 : Int32)), .val (.int s0)] [(.int ((0 : Int32) + (1 : Int32)))]))
        rw [show ((0 : Int32) + (1 : Int32)) = (1 : Int32) from by decide]
        show Go p.tables e below P (s₁.setTop (mkF m 40 #[.val (.ref b), .val (.int (0 : Int32)), .val (.int (3 : Int32)), .val (.int key), .val (.int (0 : Int32)), .val (.int (0 : Int32)), .val (.int (0 : Int32)), .val (.int s0)] [(.int (1 : Int32))]))
        refine Go.s (fun kz => XS.istore X0.here hx rfl (hb hby own_d8_40) rfl (l' := #[.val (.ref b), .val (.int (0 : Int32)), .val (.int (3 : Int32)), .val (.int key), .val (.int (1 : Int32)), .val (.int (0 : Int32)), .val (.int (0 : Int32)), .val (.int s0)]) rfl kz) ?_
        show Go p.tables e below P (s₁.setTop (mkF m 42 #[.val (.ref b), .val (.int (0 : Int32)), .val (.int (3 : Int32)), .val (.int key), .val (.int (1 : Int32)), .val (.int (0 : Int32)), .val (.int (0 : Int32)), .val (.int s0)] []))
        refine Go.s (fun kz => XS.goto X0.here hx rfl (pc0 := 42) (pc' := 63) rfl (hb hby own_d8_42) (by decide) (by decide) kz) ?_
        show Go p.tables e below P (s₁.setTop (mkF m 63 #[.val (.ref b), .val (.int (0 : Int32)), .val (.int (3 : Int32)), .val (.int key), .val (.int (1 : Int32)), .val (.int (0 : Int32)), .val (.int (0 : Int32)), .val (.int s0)] []))
        refine Go.s (fun kz => XS.goto X0.here hx rfl (pc0 := 63) (pc' := 8) rfl (hb hby own_d8_63) (by decide) (by decide) kz) ?_
        show Go p.tables e below P (s₁.setTop (mkF m 8 #[.val (.ref b), .val (.int (0 : Int32)), .val (.int (3 : Int32)), .val (.int key), .val (.int (1 : Int32)), .val (.int (0 : Int32)), .val (.int (0 : Int32)), .val (.int s0)] []))
        refine Go.s (fun kz => XS.iload X0.here hx rfl (hb hby own_d8_8) rfl kz) ?_
        show Go p.tables e below P (s₁.setTop (mkF m 10 #[.val (.ref b), .val (.int (0 : Int32)), .val (.int (3 : Int32)), .val (.int key), .val (.int (1 : Int32)), .val (.int (0 : Int32)), .val (.int (0 : Int32)), .val (.int s0)] [(.int (1 : Int32))]))
        refine Go.s (fun kz => XS.iload X0.here hx rfl (hb hby own_d8_10) rfl kz) ?_
        show Go p.tables e below P (s₁.setTop (mkF m 12 #[.val (.ref b), .val (.int (0 : Int32)), .val (.int (3 : Int32)), .val (.int key), .val (.int (1 : Int32)), .val (.int (0 : Int32)), .val (.int (0 : Int32)), .val (.int s0)] [(.int (0 : Int32)), (.int (1 : Int32))]))
        refine Go.s (fun kz => XS.icmpYes X0.here hx rfl (pc0 := 12) (pc' := 66) rfl (hb hby own_d8_12) rfl (XT.ii_gt_t (by decide)) (by decide) (by decide) kz) ?_
        show Go p.tables e below P (s₁.setTop (mkF m 66 #[.val (.ref b), .val (.int (0 : Int32)), .val (.int (3 : Int32)), .val (.int key), .val (.int (1 : Int32)), .val (.int (0 : Int32)), .val (.int (0 : Int32)), .val (.int s0)] []))
        refine Go.s (fun kz => XS.iload X0.here hx rfl (hb hby own_d8_66) rfl kz) ?_
        show Go p.tables e below P (s₁.setTop (mkF m 68 #[.val (.ref b), .val (.int (0 : Int32)), .val (.int (3 : Int32)), .val (.int key), .val (.int (1 : Int32)), .val (.int (0 : Int32)), .val (.int (0 : Int32)), .val (.int s0)] [(.int (1 : Int32))]))
        refine Go.s (fun kz => XS.iconst X0.here hx rfl (hb hby own_d8_68) kz) ?_
        show Go p.tables e below P (s₁.setTop (mkF m 69 #[.val (.ref b), .val (.int (0 : Int32)), .val (.int (3 : Int32)), .val (.int key), .val (.int (1 : Int32)), .val (.int (0 : Int32)), .val (.int (0 : Int32)), .val (.int s0)] [(.int (1 : Int32)), (.int (1 : Int32))]))
        refine Go.s (fun kz => XS.iadd X0.here hx rfl (hb hby own_d8_69) rfl kz) ?_
        show Go p.tables e below P (s₁.setTop (mkF m 70 #[.val (.ref b), .val (.int (0 : Int32)), .val (.int (3 : Int32)), .val (.int key), .val (.int (1 : Int32)), .val (.int (0 : Int32)), .val (.int (0 : Int32)), .val (.int s0)] [(.int ((1 : Int32) + (1 : Int32)))]))
        rw [show ((1 : Int32) + (1 : Int32)) = (2 : Int32) from by decide]
        show Go p.tables e below P (s₁.setTop (mkF m 70 #[.val (.ref b), .val (.int (0 : Int32)), .val (.int (3 : Int32)), .val (.int key), .val (.int (1 : Int32)), .val (.int (0 : Int32)), .val (.int (0 : Int32)), .val (.int s0)] [(.int (2 : Int32))]))
        refine Go.s (fun kz => XS.ineg X0.here hx rfl (hb hby own_d8_70) rfl kz) ?_
        show Go p.tables e below P (s₁.setTop (mkF m 71 #[.val (.ref b), .val (.int (0 : Int32)), .val (.int (3 : Int32)), .val (.int key), .val (.int (1 : Int32)), .val (.int (0 : Int32)), .val (.int (0 : Int32)), .val (.int s0)] [(.int (-(2 : Int32)))]))
        rw [show (-(2 : Int32)) = (-2 : Int32) from by decide]
        show Go p.tables e below P (s₁.setTop (mkF m 71 #[.val (.ref b), .val (.int (0 : Int32)), .val (.int (3 : Int32)), .val (.int key), .val (.int (1 : Int32)), .val (.int (0 : Int32)), .val (.int (0 : Int32)), .val (.int s0)] [(.int (-2 : Int32))]))
        exact Go.retI X0 hx hlk hret (hb hby own_d8_71) (fun U hU hF => hP U _ _ (by rw [hU, e0]; exact ⟨(Or.inr (Or.inr (Or.inr (Or.inl (⟨rfl, hc33, hc48, hc33'⟩))))), N0, rfl⟩) ⟨hF.1, hF.2.1, hF.2.2.mono (by decide) (by decide)⟩)
      · skip
        refine Go.s (fun kz => XS.icmpYes X0.here hx rfl (pc0 := 33) (pc' := 45) rfl (hb hby own_d8_33) rfl (XT.ii_ge_t hc33') (by decide) (by decide) kz) ?_
        show Go p.tables e below P (s₁.setTop (mkF m 45 #[.val (.ref b), .val (.int (0 : Int32)), .val (.int (3 : Int32)), .val (.int key), .val (.int (0 : Int32)), .val (.int (0 : Int32)), .val (.int (0 : Int32)), .val (.int s0)] []))
        refine Go.s (fun kz => XS.iload X0.here hx rfl (hb hby own_d8_45) rfl kz) ?_
        show Go p.tables e below P (s₁.setTop (mkF m 47 #[.val (.ref b), .val (.int (0 : Int32)), .val (.int (3 : Int32)), .val (.int key), .val (.int (0 : Int32)), .val (.int (0 : Int32)), .val (.int (0 : Int32)), .val (.int s0)] [(.int s0)]))
        refine Go.s (fun kz => XS.iloadN X0.here hx rfl (hb hby own_d8_47) rfl kz) ?_
        show Go p.tables e below P (s₁.setTop (mkF m 48 #[.val (.ref b), .val (.int (0 : Int32)), .val (.int (3 : Int32)), .val (.int key), .val (.int (0 : Int32)), .val (.int (0 : Int32)), .val (.int (0 : Int32)), .val (.int s0)] [(.int key), (.int s0)]))
        by_cases hc48' : key < s0
        · skip
          refine Go.s (fun kz => XS.icmpNo X0.here hx rfl (hb hby own_d8_48) rfl (XT.ii_le_f hc48') kz) ?_
          show Go p.tables e below P (s₁.setTop (mkF m 51 #[.val (.ref b), .val (.int (0 : Int32)), .val (.int (3 : Int32)), .val (.int key), .val (.int (0 : Int32)), .val (.int (0 : Int32)), .val (.int (0 : Int32)), .val (.int s0)] []))
          refine Go.s (fun kz => XS.iload X0.here hx rfl (hb hby own_d8_51) rfl kz) ?_
          show Go p.tables e below P (s₁.setTop (mkF m 53 #[.val (.ref b), .val (.int (0 : Int32)), .val (.int (3 : Int32)), .val (.int key), .val (.int (0 : Int32)), .val (.int (0 : Int32)), .val (.int (0 : Int32)), .val (.int s0)] [(.int (0 : Int32))]))
          refine Go.s (fun kz => XS.iconst X0.here hx rfl (hb hby own_d8_53) kz) ?_
          show Go p.tables e below P (s₁.setTop (mkF m 54 #[.val (.ref b), .val (.int (0 : Int32)), .val (.int (3 : Int32)), .val (.int key), .val (.int (0 : Int32)), .val (.int (0 : Int32)), .val (.int (0 : Int32)), .val (.int s0)] [(.int (1 : Int32)), (.int (0 : Int32))]))
          refine Go.s (fun kz => XS.isub X0.here hx rfl (hb hby own_d8_54) rfl kz) ?_
          show Go p.tables e below P (s₁.setTop (mkF m 55 #[.val (.ref b), .val (.int (0 : Int32)), .val (.int (3 : Int32)), .val (.int key), .val (.int (0 : Int32)), .val (.int (0 : Int32)), .val (.int (0 : Int32)), .val (.int s0)] [(.int ((0 : Int32) - (1 : Int32)))]))
          rw [show ((0 : Int32) - (1 : Int32)) = (-1 : Int32) from by decide]
          show Go p.tables e below P (s₁.setTop (mkF m 55 #[.val (.ref b), .val (.int (0 : Int32)), .val (.int (3 : Int32)), .val (.int key), .val (.int (0 : Int32)), .val (.int (0 : Int32)), .val (.int (0 : Int32)), .val (.int s0)] [(.int (-1 : Int32))]))
          refine Go.s (fun kz => XS.istore X0.here hx rfl (hb hby own_d8_55) rfl (l' := #[.val (.ref b), .val (.int (0 : Int32)), .val (.int (3 : Int32)), .val (.int key), .val (.int (0 : Int32)), .val (.int (-1 : Int32)), .val (.int (0 : Int32)), .val (.int s0)]) rfl kz) ?_
          show Go p.tables e below P (s₁.setTop (mkF m 57 #[.val (.ref b), .val (.int (0 : Int32)), .val (.int (3 : Int32)), .val (.int key), .val (.int (0 : Int32)), .val (.int (-1 : Int32)), .val (.int (0 : Int32)), .val (.int s0)] []))
          refine Go.s (fun kz => XS.goto X0.here hx rfl (pc0 := 57) (pc' := 63) rfl (hb hby own_d8_57) (by decide) (by decide) kz) ?_
          show Go p.tables e below P (s₁.setTop (mkF m 63 #[.val (.ref b), .val (.int (0 : Int32)), .val (.int (3 : Int32)), .val (.int key), .val (.int (0 : Int32)), .val (.int (-1 : Int32)), .val (.int (0 : Int32)), .val (.int s0)] []))
          refine Go.s (fun kz => XS.goto X0.here hx rfl (pc0 := 63) (pc' := 8) rfl (hb hby own_d8_63) (by decide) (by decide) kz) ?_
          show Go p.tables e below P (s₁.setTop (mkF m 8 #[.val (.ref b), .val (.int (0 : Int32)), .val (.int (3 : Int32)), .val (.int key), .val (.int (0 : Int32)), .val (.int (-1 : Int32)), .val (.int (0 : Int32)), .val (.int s0)] []))
          refine Go.s (fun kz => XS.iload X0.here hx rfl (hb hby own_d8_8) rfl kz) ?_
          show Go p.tables e below P (s₁.setTop (mkF m 10 #[.val (.ref b), .val (.int (0 : Int32)), .val (.int (3 : Int32)), .val (.int key), .val (.int (0 : Int32)), .val (.int (-1 : Int32)), .val (.int (0 : Int32)), .val (.int s0)] [(.int (0 : Int32))]))
          refine Go.s (fun kz => XS.iload X0.here hx rfl (hb hby own_d8_10) rfl kz) ?_
          show Go p.tables e below P (s₁.setTop (mkF m 12 #[.val (.ref b), .val (.int (0 : Int32)), .val (.int (3 : Int32)), .val (.int key), .val (.int (0 : Int32)), .val (.int (-1 : Int32)), .val (.int (0 : Int32)), .val (.int s0)] [(.int (-1 : Int32)), (.int (0 : Int32))]))
          refine Go.s (fun kz => XS.icmpYes X0.here hx rfl (pc0 := 12) (pc' := 66) rfl (hb hby own_d8_12) rfl (XT.ii_gt_t (by decide)) (by decide) (by decide) kz) ?_
          show Go p.tables e below P (s₁.setTop (mkF m 66 #[.val (.ref b), .val (.int (0 : Int32)), .val (.int (3 : Int32)), .val (.int key), .val (.int (0 : Int32)), .val (.int (-1 : Int32)), .val (.int (0 : Int32)), .val (.int s0)] []))
          refine Go.s (fun kz => XS.iload X0.here hx rfl (hb hby own_d8_66) rfl kz) ?_
          show Go p.tables e below P (s₁.setTop (mkF m 68 #[.val (.ref b), .val (.int (0 : Int32)), .val (.int (3 : Int32)), .val (.int key), .val (.int (0 : Int32)), .val (.int (-1 : Int32)), .val (.int (0 : Int32)), .val (.int s0)] [(.int (0 : Int32))]))
          refine Go.s (fun kz => XS.iconst X0.here hx rfl (hb hby own_d8_68) kz) ?_
          show Go p.tables e below P (s₁.setTop (mkF m 69 #[.val (.ref b), .val (.int (0 : Int32)), .val (.int (3 : Int32)), .val (.int key), .val (.int (0 : Int32)), .val (.int (-1 : Int32)), .val (.int (0 : Int32)), .val (.int s0)] [(.int (1 : Int32)), (.int (0 : Int32))]))
          refine Go.s (fun kz => XS.iadd X0.here hx rfl (hb hby own_d8_69) rfl kz) ?_
          show Go p.tables e below P (s₁.setTop (mkF m 70 #[.val (.ref b), .val (.int (0 : Int32)), .val (.int (3 : Int32)), .val (.int key), .val (.int (0 : Int32)), .val (.int (-1 : Int32)), .val (.int (0 : Int32)), .val (.int s0)] [(.int ((0 : Int32) + (1 : Int32)))]))
          rw [show ((0 : Int32) + (1 : Int32)) = (1 : Int32) from by decide]
          show Go p.tables e below P (s₁.setTop (mkF m 70 #[.val (.ref b), .val (.int (0 : Int32)), .val (.int (3 : Int32)), .val (.int key), .val (.int (0 : Int32)), .val (.int (-1 : Int32)), .val (.int (0 : Int32)), .val (.int s0)] [(.int (1 : Int32))]))
          refine Go.s (fun kz => XS.ineg X0.here hx rfl (hb hby own_d8_70) rfl kz) ?_
          show Go p.tables e below P (s₁.setTop (mkF m 71 #[.val (.ref b), .val (.int (0 : Int32)), .val (.int (3 : Int32)), .val (.int key), .val (.int (0 : Int32)), .val (.int (-1 : Int32)), .val (.int (0 : Int32)), .val (.int s0)] [(.int (-(1 : Int32)))]))
          rw [show (-(1 : Int32)) = (-1 : Int32) from by decide]
          show Go p.tables e below P (s₁.setTop (mkF m 71 #[.val (.ref b), .val (.int (0 : Int32)), .val (.int (3 : Int32)), .val (.int key), .val (.int (0 : Int32)), .val (.int (-1 : Int32)), .val (.int (0 : Int32)), .val (.int s0)] [(.int (-1 : Int32))]))
          exact Go.retI X0 hx hlk hret (hb hby own_d8_71) (fun U hU hF => hP U _ _ (by rw [hU, e0]; exact ⟨(Or.inr (Or.inr (Or.inr (Or.inr (Or.inl (⟨rfl, hc33, hc48, hc33', hc48'⟩)))))), N0, rfl⟩) ⟨hF.1, hF.2.1, hF.2.2.mono (by decide) (by decide)⟩)
        · skip
          refine Go.s (fun kz => XS.icmpYes X0.here hx rfl (pc0 := 48) (pc' := 60) rfl (hb hby own_d8_48) rfl (XT.ii_le_t hc48') (by decide) (by decide) kz) ?_
          show Go p.tables e below P (s₁.setTop (mkF m 60 #[.val (.ref b), .val (.int (0 : Int32)), .val (.int (3 : Int32)), .val (.int key), .val (.int (0 : Int32)), .val (.int (0 : Int32)), .val (.int (0 : Int32)), .val (.int s0)] []))
          refine Go.s (fun kz => XS.iload X0.here hx rfl (hb hby own_d8_60) rfl kz) ?_
          show Go p.tables e below P (s₁.setTop (mkF m 62 #[.val (.ref b), .val (.int (0 : Int32)), .val (.int (3 : Int32)), .val (.int key), .val (.int (0 : Int32)), .val (.int (0 : Int32)), .val (.int (0 : Int32)), .val (.int s0)] [(.int (0 : Int32))]))
          exact Go.retI X0 hx hlk hret (hb hby own_d8_62) (fun U hU hF => hP U _ _ (by rw [hU, e0]; exact ⟨(Or.inr (Or.inr (Or.inr (Or.inr (Or.inr (Or.inl (⟨rfl, hc33, hc48, hc33', hc48'⟩))))))), N0, rfl⟩) ⟨hF.1, hF.2.1, hF.2.2.mono (by decide) (by decide)⟩)
    · skip
      refine Go.s (fun kz => XS.icmpYes X0.here hx rfl (pc0 := 48) (pc' := 60) rfl (hb hby own_d8_48) rfl (XT.ii_le_t hc48) (by decide) (by decide) kz) ?_
      show Go p.tables e below P (s₁.setTop (mkF m 60 #[.val (.ref b), .val (.int (0 : Int32)), .val (.int (3 : Int32)), .val (.int key), .val (.int (0 : Int32)), .val (.int (2 : Int32)), .val (.int (1 : Int32)), .val (.int s1)] []))
      refine Go.s (fun kz => XS.iload X0.here hx rfl (hb hby own_d8_60) rfl kz) ?_
      show Go p.tables e below P (s₁.setTop (mkF m 62 #[.val (.ref b), .val (.int (0 : Int32)), .val (.int (3 : Int32)), .val (.int key), .val (.int (0 : Int32)), .val (.int (2 : Int32)), .val (.int (1 : Int32)), .val (.int s1)] [(.int (1 : Int32))]))
      exact Go.retI X0 hx hlk hret (hb hby own_d8_62) (fun U hU hF => hP U _ _ (by rw [hU, e0]; exact ⟨(Or.inr (Or.inr (Or.inr (Or.inr (Or.inr (Or.inr (⟨rfl, hc33, hc48⟩))))))), N0, rfl⟩) ⟨hF.1, hF.2.1, hF.2.2.mono (by decide) (by decide)⟩)
theorem own_ef7_3 (m : MethodId) (b : Addr) (key : Int32) : entryFrame m #[(.ref b), (.int key)] 2 = mkF m 0 #[.val (.ref b), .val (.int key)] [] := by
  (first | (simp [entryFrame, mkF, argsToLocals, Value.category]; done) | rfl)
set_option maxRecDepth 65536 in
set_option maxHeartbeats 40000000 in
theorem own_rm7_3 (l : Launch) (Z : State) (a0 : Array Value) (hw : ∀ d ∈ tables_1, d.before a0 Z = true) (ws : List Jvm.Cond) (b kk : Nat) (key s0 s1 s2 : Int32) (h0 : Heap) (n0 : Nat) (Z0 : n0 ≤ h0.size) (V_b : Arv Z h0 b kk .int 3 [.int s0, .int s1, .int s2] (.int (0 : Int32))) :
    Con l Z (⟨"java/util/Arrays", "binarySearch", "([II)I"⟩ : MethodName) jdk_65_method_57_code 2 (some .int) ws ({ frames := 1, cells := 0, slots := 0, locals := 19 } : Room) #[(.ref b), (.int key)] h0 (fun v h L => ((v = some (.int (-4 : Int32)) ∧ s1 < key ∧ s2 < key) ∨ (v = some (.int (-3 : Int32)) ∧ s1 < key ∧ ¬ s2 < key ∧ key < s2) ∨ (v = some (.int (2 : Int32)) ∧ s1 < key ∧ ¬ s2 < key ∧ ¬ key < s2) ∨ (v = some (.int (-2 : Int32)) ∧ ¬ s1 < key ∧ key < s1 ∧ s0 < key) ∨ (v = some (.int (-1 : Int32)) ∧ ¬ s1 < key ∧ key < s1 ∧ ¬ s0 < key ∧ key < s0) ∨ (v = some (.int (0 : Int32)) ∧ ¬ s1 < key ∧ key < s1 ∧ ¬ s0 < key ∧ ¬ key < s0) ∨ (v = some (.int (1 : Int32)) ∧ ¬ s1 < key ∧ ¬ key < s1)) ∧ Fr n0 L ∧ h = h0) := by
  refine Con.intro (plainFor_of_name own_pn_1) ?_
  intro p e s m below meth c s₁ P hx hby hml hown hnm hret hlk hZ X0 e0 hP
  have N0 := Fr.nil n0
  have hown : s.vm.findClass "java/util/Arrays" = some m.cls := hown
  refine Go.cast (own_ef7_3 m b key) ?_
  show Go p.tables e below P (s₁.setTop (mkF m 0 #[.val (.ref b), .val (.int key)] []))
  refine Go.s (fun kz => XS.aloadN X0.here hx rfl (hb hby own_d7_0) rfl rfl kz) ?_
  show Go p.tables e below P (s₁.setTop (mkF m 1 #[.val (.ref b), .val (.int key)] [(.ref b)]))
  refine Go.s (fun kz => XS.iconst X0.here hx rfl (hb hby own_d7_1) kz) ?_
  show Go p.tables e below P (s₁.setTop (mkF m 2 #[.val (.ref b), .val (.int key)] [(.int (0 : Int32)), (.ref b)]))
  refine Go.s (fun kz => XS.aloadN X0.here hx rfl (hb hby own_d7_2) rfl rfl kz) ?_
  show Go p.tables e below P (s₁.setTop (mkF m 3 #[.val (.ref b), .val (.int key)] [(.ref b), (.int (0 : Int32)), (.ref b)]))
  obtain ⟨cl1, Ar1, q1, Sz1, Ng1, Ha1, Ft1⟩ := id V_b
  refine Go.s (fun {t} kz => X0.arraylength hx (by rw [e0]; exact Ar1.1) (State.isArrayOf_alike hZ.alike Ar1.2.1) (g := (mkF m 3 #[.val (.ref b), .val (.int key)] [(.ref b), (.int (0 : Int32)), (.ref b)])) rfl rfl (hb hby own_d7_3) _ kz) ?_
  rw [len_of Sz1 Ng1]
  show Go p.tables e below P (s₁.setTop (mkF m 4 #[.val (.ref b), .val (.int key)] [(.int (3 : Int32)), (.int (0 : Int32)), (.ref b)]))
  refine Go.s (fun kz => XS.iloadN X0.here hx rfl (hb hby own_d7_4) rfl kz) ?_
  show Go p.tables e below P (s₁.setTop (mkF m 5 #[.val (.ref b), .val (.int key)] [(.int key), (.int (3 : Int32)), (.int (0 : Int32)), (.ref b)]))
  obtain ⟨v2, T2, L2, X2, Q2, st2⟩ := Con.static (own_rm8_3 l Z a0 hw [] b kk key s0 s1 s2 h0 n0 Z0 V_b) X0 hx hZ (W := 0) hown (hw _ (List.mem_of_getElem? (i := 35) rfl)) (hw _ (List.mem_of_getElem? (i := 36) rfl)) (hw _ (List.mem_of_getElem? (i := 33) rfl)) (hw _ (List.mem_of_getElem? (i := 37) rfl)) (by decide) (by decide) (by decide) (by decide) (by decide) e0 (g := (mkF m 5 #[.val (.ref b), .val (.int key)] [(.int key), (.int (3 : Int32)), (.int (0 : Int32)), (.ref b)])) rfl (by rw [hml]; rfl) (argsL := [(.ref b), (.int (0 : Int32)), (.int (3 : Int32)), (.int key)]) (rest := []) rfl (lenOf own_pd_0 rfl) rfl (by show 2 * 0 + _ ≤ _; exact Nat.le_of_eq rfl) (hb hby own_d7_5)
  obtain ⟨hd2, Nq2, e2⟩ := Q2
  have N2 := Fr.app N0 Nq2
  rcases hd2 with ⟨rfl, k0, k1⟩ | ⟨rfl, k0, k1, k2⟩ | ⟨rfl, k0, k1, k2⟩ | ⟨rfl, k0, k1, k2⟩ | ⟨rfl, k0, k1, k2, k3⟩ | ⟨rfl, k0, k1, k2, k3⟩ | ⟨rfl, k0, k1⟩
  · skip
    refine Go.s (fun {t} => st2) ?_
    show Go p.tables e below P (T2.setTop (mkF m 8 #[.val (.ref b), .val (.int key)] [(.int (-4 : Int32))]))
    exact Go.retI X2 hx hlk hret (hb hby own_d7_8) (fun U hU hF => hP U _ _ (by rw [hU, e2]; exact ⟨(Or.inl (⟨rfl, k0, k1⟩)), N2, rfl⟩) ⟨hF.1, hF.2.1, hF.2.2.mono (by decide) (by decide)⟩)
  · skip
    refine Go.s (fun {t} => st2) ?_
    show Go p.tables e below P (T2.setTop (mkF m 8 #[.val (.ref b), .val (.int key)] [(.int (-3 : Int32))]))
    exact Go.retI X2 hx hlk hret (hb hby own_d7_8) (fun U hU hF => hP U _ _ (by rw [hU, e2]; exact ⟨(Or.inr (Or.inl (⟨rfl, k0, k1, k2⟩))), N2, rfl⟩) ⟨hF.1, hF.2.1, hF.2.2.mono (by decide) (by decide)⟩)
  · skip
    refine Go.s (fun {t} => st2) ?_
    show Go p.tables e below P (T2.setTop (mkF m 8 #[.val (.ref b), .val (.int key)] [(.int (2 : Int32))]))
    exact Go.retI X2 hx hlk hret (hb hby own_d7_8) (fun U hU hF => hP U _ _ (by rw [hU, e2]; exact ⟨(Or.inr (Or.inr (Or.inl (⟨rfl, k0, k1, k2⟩)))), N2, rfl⟩) ⟨hF.1, hF.2.1, hF.2.2.mono (by decide) (by decide)⟩)
  · skip
    refine Go.s (fun {t} => st2) ?_
    show Go p.tables e below P (T2.setTop (mkF m 8 #[.val (.ref b), .val (.int key)] [(.int (-2 : Int32))]))
    exact Go.retI X2 hx hlk hret (hb hby own_d7_8) (fun U hU hF => hP U _ _ (by rw [hU, e2]; exact ⟨(Or.inr (Or.inr (Or.inr (Or.inl (⟨rfl, k0, k1, k2⟩))))), N2, rfl⟩) ⟨hF.1, hF.2.1, hF.2.2.mono (by decide) (by decide)⟩)
  · skip
    refine Go.s (fun {t} => st2) ?_
    show Go p.tables e below P (T2.setTop (mkF m 8 #[.val (.ref b), .val (.int key)] [(.int (-1 : Int32))]))
    exact Go.retI X2 hx hlk hret (hb hby own_d7_8) (fun U hU hF => hP U _ _ (by rw [hU, e2]; exact ⟨(Or.inr (Or.inr (Or.inr (Or.inr (Or.inl (⟨rfl, k0, k1, k2, k3⟩)))))), N2, rfl⟩) ⟨hF.1, hF.2.1, hF.2.2.mono (by decide) (by decide)⟩)
  · skip
    refine Go.s (fun {t} => st2) ?_
    show Go p.tables e below P (T2.setTop (mkF m 8 #[.val (.ref b), .val (.int key)] [(.int (0 : Int32))]))
    exact Go.retI X2 hx hlk hret (hb hby own_d7_8) (fun U hU hF => hP U _ _ (by rw [hU, e2]; exact ⟨(Or.inr (Or.inr (Or.inr (Or.inr (Or.inr (Or.inl (⟨rfl, k0, k1, k2, k3⟩))))))), N2, rfl⟩) ⟨hF.1, hF.2.1, hF.2.2.mono (by decide) (by decide)⟩)
  · skip
    refine Go.s (fun {t} => st2) ?_
    show Go p.tables e below P (T2.setTop (mkF m 8 #[.val (.ref b), .val (.int key)] [(.int (1 : Int32))]))
    exact Go.retI X2 hx hlk hret (hb hby own_d7_8) (fun U hU hF => hP U _ _ (by rw [hU, e2]; exact ⟨(Or.inr (Or.inr (Or.inr (Or.inr (Or.inr (Or.inr (⟨rfl, k0, k1⟩))))))), N2, rfl⟩) ⟨hF.1, hF.2.1, hF.2.2.mono (by decide) (by decide)⟩)
theorem own_ef6_3 (m : MethodId) (a : Addr) (x : Int64) : entryFrame m #[(.ref a), (.long x)] 4 = mkF m 0 #[.val (.ref a), .val (.long x), .second, .unset] [] := by
  (first | (simp [entryFrame, mkF, argsToLocals, Value.category]; done) | rfl)
set_option maxRecDepth 65536 in
set_option maxHeartbeats 40000000 in
theorem own_rm6_3 (l : Launch) (Z : State) (a0 : Array Value) (hw : ∀ d ∈ tables_1, d.before a0 Z = true) (ws : List Jvm.Cond) (a b kk : Nat) (x : Int64) (s0 s1 s2 : Int32) (h0 : Heap) (n0 : Nat) (Z0 : n0 ≤ h0.size) (V_b : Arv Z h0 b kk .int 3 [.int s0, .int s1, .int s2] (.int (0 : Int32))) (F_s : Fld Z h0 a "com/example/tempo_feed/tempofeed/core/DailyPolls" "secondsOfDay" "[I" (.ref b)) :
    Con l Z (⟨"com/example/tempo_feed/tempofeed/core/DailyPolls", "indexAtOrAfter", "(J)I"⟩ : MethodName) prog_13_method_5_code 4 (some .int) ws ({ frames := 2, cells := 0, slots := 0, locals := 32 } : Room) #[(.ref a), (.long x)] h0 (fun v h L => ((v = some (.int (3 : Int32)) ∧ s1 < x.toInt32 ∧ s2 < x.toInt32) ∨ (v = some (.int (2 : Int32)) ∧ s1 < x.toInt32 ∧ ¬ s2 < x.toInt32 ∧ x.toInt32 < s2) ∨ (v = some (.int (2 : Int32)) ∧ s1 < x.toInt32 ∧ ¬ s2 < x.toInt32 ∧ ¬ x.toInt32 < s2) ∨ (v = some (.int (1 : Int32)) ∧ ¬ s1 < x.toInt32 ∧ x.toInt32 < s1 ∧ s0 < x.toInt32) ∨ (v = some (.int (0 : Int32)) ∧ ¬ s1 < x.toInt32 ∧ x.toInt32 < s1 ∧ ¬ s0 < x.toInt32 ∧ x.toInt32 < s0) ∨ (v = some (.int (0 : Int32)) ∧ ¬ s1 < x.toInt32 ∧ x.toInt32 < s1 ∧ ¬ s0 < x.toInt32 ∧ ¬ x.toInt32 < s0) ∨ (v = some (.int (1 : Int32)) ∧ ¬ s1 < x.toInt32 ∧ ¬ x.toInt32 < s1)) ∧ Fr n0 L ∧ h = h0) := by
  refine Con.intro (plainFor_of_name own_pn_0) ?_
  intro p e s m below meth c s₁ P hx hby hml hown hnm hret hlk hZ X0 e0 hP
  have N0 := Fr.nil n0
  have hown : s.vm.findClass "com/example/tempo_feed/tempofeed/core/DailyPolls" = some m.cls := hown
  refine Go.cast (own_ef6_3 m a x) ?_
  show Go p.tables e below P (s₁.setTop (mkF m 0 #[.val (.ref a), .val (.long x), .second, .unset] []))
  refine Go.s (fun kz => XS.aloadN X0.here hx rfl (hb hby own_d6_0) rfl rfl kz) ?_
  show Go p.tables e below P (s₁.setTop (mkF m 1 #[.val (.ref a), .val (.long x), .second, .unset] [(.ref a)]))
  obtain ⟨T1, X1, e1, st1⟩ := getF X0 hx hZ hown (host := "") (Or.inl (hw _ (List.mem_of_getElem? (i := 12) rfl))) Via.refl e0 F_s (g := (mkF m 1 #[.val (.ref a), .val (.long x), .second, .unset] [(.ref a)])) rfl rfl (hb hby own_d6_1)
  refine Go.s (fun {t} => st1 t) ?_
  show Go p.tables e below P (T1.setTop (mkF m 4 #[.val (.ref a), .val (.long x), .second, .unset] [(.ref b)]))
  refine Go.s (fun kz => XT.lloadN X1.here hx rfl (hb hby own_d6_4) rfl kz) ?_
  show Go p.tables e below P (T1.setTop (mkF m 5 #[.val (.ref a), .val (.long x), .second, .unset] [(.long x), (.ref b)]))
  refine Go.s (fun kz => XT.l2i X1.here hx rfl (hb hby own_d6_5) rfl kz) ?_
  show Go p.tables e below P (T1.setTop (mkF m 6 #[.val (.ref a), .val (.long x), .second, .unset] [(.int x.toInt32), (.ref b)]))
  obtain ⟨v2, T2, L2, X2, Q2, st2⟩ := Con.static (own_rm7_3 l Z a0 hw [] b kk x.toInt32 s0 s1 s2 h0 n0 Z0 V_b) X1 hx hZ (W := 0) hown (hw _ (List.mem_of_getElem? (i := 31) rfl)) (hw _ (List.mem_of_getElem? (i := 32) rfl)) (hw _ (List.mem_of_getElem? (i := 33) rfl)) (hw _ (List.mem_of_getElem? (i := 34) rfl)) (by decide) (by decide) (by decide) (by decide) (by decide) e1 (g := (mkF m 6 #[.val (.ref a), .val (.long x), .second, .unset] [(.int x.toInt32), (.ref b)])) rfl (by rw [hml]; rfl) (argsL := [(.ref b), (.int x.toInt32)]) (rest := []) rfl (lenOf own_pd_1 rfl) rfl (by show 2 * 0 + _ ≤ _; exact Nat.le_of_eq rfl) (hb hby own_d6_6)
  obtain ⟨hd2, Nq2, e2⟩ := Q2
  have N2 := Fr.app N0 Nq2
  rcases hd2 with ⟨rfl, k0, k1⟩ | ⟨rfl, k0, k1, k2⟩ | ⟨rfl, k0, k1, k2⟩ | ⟨rfl, k0, k1, k2⟩ | ⟨rfl, k0, k1, k2, k3⟩ | ⟨rfl, k0, k1, k2, k3⟩ | ⟨rfl, k0, k1⟩
  · skip
    refine Go.s (fun {t} => st2) ?_
    show Go p.tables e below P (T2.setTop (mkF m 9 #[.val (.ref a), .val (.long x), .second, .unset] [(.int (-4 : Int32))]))
    refine Go.s (fun kz => XS.istoreN X2.here hx rfl (hb hby own_d6_9) rfl (l' := #[.val (.ref a), .val (.long x), .second, .val (.int (-4 : Int32))]) rfl kz) ?_
    show Go p.tables e below P (T2.setTop (mkF m 10 #[.val (.ref a), .val (.long x), .second, .val (.int (-4 : Int32))] []))
    refine Go.s (fun kz => XS.iloadN X2.here hx rfl (hb hby own_d6_10) rfl kz) ?_
    show Go p.tables e below P (T2.setTop (mkF m 11 #[.val (.ref a), .val (.long x), .second, .val (.int (-4 : Int32))] [(.int (-4 : Int32))]))
    refine Go.s (fun kz => XS.ifYes X2.here hx rfl (pc0 := 11) (pc' := 18) rfl (hb hby own_d6_11) rfl (XT.i0_lt_t (by decide)) (by decide) (by decide) kz) ?_
    show Go p.tables e below P (T2.setTop (mkF m 18 #[.val (.ref a), .val (.long x), .second, .val (.int (-4 : Int32))] []))
    refine Go.s (fun kz => XS.iloadN X2.here hx rfl (hb hby own_d6_18) rfl kz) ?_
    show Go p.tables e below P (T2.setTop (mkF m 19 #[.val (.ref a), .val (.long x), .second, .val (.int (-4 : Int32))] [(.int (-4 : Int32))]))
    refine Go.s (fun kz => XS.ineg X2.here hx rfl (hb hby own_d6_19) rfl kz) ?_
    show Go p.tables e below P (T2.setTop (mkF m 20 #[.val (.ref a), .val (.long x), .second, .val (.int (-4 : Int32))] [(.int (-(-4 : Int32)))]))
    rw [show (-(-4 : Int32)) = (4 : Int32) from by decide]
    show Go p.tables e below P (T2.setTop (mkF m 20 #[.val (.ref a), .val (.long x), .second, .val (.int (-4 : Int32))] [(.int (4 : Int32))]))
    refine Go.s (fun kz => XS.iconst X2.here hx rfl (hb hby own_d6_20) kz) ?_
    show Go p.tables e below P (T2.setTop (mkF m 21 #[.val (.ref a), .val (.long x), .second, .val (.int (-4 : Int32))] [(.int (1 : Int32)), (.int (4 : Int32))]))
    refine Go.s (fun kz => XS.isub X2.here hx rfl (hb hby own_d6_21) rfl kz) ?_
    show Go p.tables e below P (T2.setTop (mkF m 22 #[.val (.ref a), .val (.long x), .second, .val (.int (-4 : Int32))] [(.int ((4 : Int32) - (1 : Int32)))]))
    rw [show ((4 : Int32) - (1 : Int32)) = (3 : Int32) from by decide]
    show Go p.tables e below P (T2.setTop (mkF m 22 #[.val (.ref a), .val (.long x), .second, .val (.int (-4 : Int32))] [(.int (3 : Int32))]))
    exact Go.retI X2 hx hlk hret (hb hby own_d6_22) (fun U hU hF => hP U _ _ (by rw [hU, e2]; exact ⟨(Or.inl (⟨rfl, k0, k1⟩)), N2, rfl⟩) ⟨hF.1, hF.2.1, hF.2.2.mono (by decide) (by decide)⟩)
  · skip
    refine Go.s (fun {t} => st2) ?_
    show Go p.tables e below P (T2.setTop (mkF m 9 #[.val (.ref a), .val (.long x), .second, .unset] [(.int (-3 : Int32))]))
    refine Go.s (fun kz => XS.istoreN X2.here hx rfl (hb hby own_d6_9) rfl (l' := #[.val (.ref a), .val (.long x), .second, .val (.int (-3 : Int32))]) rfl kz) ?_
    show Go p.tables e below P (T2.setTop (mkF m 10 #[.val (.ref a), .val (.long x), .second, .val (.int (-3 : Int32))] []))
    refine Go.s (fun kz => XS.iloadN X2.here hx rfl (hb hby own_d6_10) rfl kz) ?_
    show Go p.tables e below P (T2.setTop (mkF m 11 #[.val (.ref a), .val (.long x), .second, .val (.int (-3 : Int32))] [(.int (-3 : Int32))]))
    refine Go.s (fun kz => XS.ifYes X2.here hx rfl (pc0 := 11) (pc' := 18) rfl (hb hby own_d6_11) rfl (XT.i0_lt_t (by decide)) (by decide) (by decide) kz) ?_
    show Go p.tables e below P (T2.setTop (mkF m 18 #[.val (.ref a), .val (.long x), .second, .val (.int (-3 : Int32))] []))
    refine Go.s (fun kz => XS.iloadN X2.here hx rfl (hb hby own_d6_18) rfl kz) ?_
    show Go p.tables e below P (T2.setTop (mkF m 19 #[.val (.ref a), .val (.long x), .second, .val (.int (-3 : Int32))] [(.int (-3 : Int32))]))
    refine Go.s (fun kz => XS.ineg X2.here hx rfl (hb hby own_d6_19) rfl kz) ?_
    show Go p.tables e below P (T2.setTop (mkF m 20 #[.val (.ref a), .val (.long x), .second, .val (.int (-3 : Int32))] [(.int (-(-3 : Int32)))]))
    rw [show (-(-3 : Int32)) = (3 : Int32) from by decide]
    show Go p.tables e below P (T2.setTop (mkF m 20 #[.val (.ref a), .val (.long x), .second, .val (.int (-3 : Int32))] [(.int (3 : Int32))]))
    refine Go.s (fun kz => XS.iconst X2.here hx rfl (hb hby own_d6_20) kz) ?_
    show Go p.tables e below P (T2.setTop (mkF m 21 #[.val (.ref a), .val (.long x), .second, .val (.int (-3 : Int32))] [(.int (1 : Int32)), (.int (3 : Int32))]))
    refine Go.s (fun kz => XS.isub X2.here hx rfl (hb hby own_d6_21) rfl kz) ?_
    show Go p.tables e below P (T2.setTop (mkF m 22 #[.val (.ref a), .val (.long x), .second, .val (.int (-3 : Int32))] [(.int ((3 : Int32) - (1 : Int32)))]))
    rw [show ((3 : Int32) - (1 : Int32)) = (2 : Int32) from by decide]
    show Go p.tables e below P (T2.setTop (mkF m 22 #[.val (.ref a), .val (.long x), .second, .val (.int (-3 : Int32))] [(.int (2 : Int32))]))
    exact Go.retI X2 hx hlk hret (hb hby own_d6_22) (fun U hU hF => hP U _ _ (by rw [hU, e2]; exact ⟨(Or.inr (Or.inl (⟨rfl, k0, k1, k2⟩))), N2, rfl⟩) ⟨hF.1, hF.2.1, hF.2.2.mono (by decide) (by decide)⟩)
  · skip
    refine Go.s (fun {t} => st2) ?_
    show Go p.tables e below P (T2.setTop (mkF m 9 #[.val (.ref a), .val (.long x), .second, .unset] [(.int (2 : Int32))]))
    refine Go.s (fun kz => XS.istoreN X2.here hx rfl (hb hby own_d6_9) rfl (l' := #[.val (.ref a), .val (.long x), .second, .val (.int (2 : Int32))]) rfl kz) ?_
    show Go p.tables e below P (T2.setTop (mkF m 10 #[.val (.ref a), .val (.long x), .second, .val (.int (2 : Int32))] []))
    refine Go.s (fun kz => XS.iloadN X2.here hx rfl (hb hby own_d6_10) rfl kz) ?_
    show Go p.tables e below P (T2.setTop (mkF m 11 #[.val (.ref a), .val (.long x), .second, .val (.int (2 : Int32))] [(.int (2 : Int32))]))
    refine Go.s (fun kz => XS.ifNo X2.here hx rfl (hb hby own_d6_11) rfl (XT.i0_lt_f (by decide)) kz) ?_
    show Go p.tables e below P (T2.setTop (mkF m 14 #[.val (.ref a), .val (.long x), .second, .val (.int (2 : Int32))] []))
    refine Go.s (fun kz => XS.iloadN X2.here hx rfl (hb hby own_d6_14) rfl kz) ?_
    show Go p.tables e below P (T2.setTop (mkF m 15 #[.val (.ref a), .val (.long x), .second, .val (.int (2 : Int32))] [(.int (2 : Int32))]))
    refine Go.s (fun kz => XS.goto X2.here hx rfl (pc0 := 15) (pc' := 22) rfl (hb hby own_d6_15) (by decide) (by decide) kz) ?_
    show Go p.tables e below P (T2.setTop (mkF m 22 #[.val (.ref a), .val (.long x), .second, .val (.int (2 : Int32))] [(.int (2 : Int32))]))
    exact Go.retI X2 hx hlk hret (hb hby own_d6_22) (fun U hU hF => hP U _ _ (by rw [hU, e2]; exact ⟨(Or.inr (Or.inr (Or.inl (⟨rfl, k0, k1, k2⟩)))), N2, rfl⟩) ⟨hF.1, hF.2.1, hF.2.2.mono (by decide) (by decide)⟩)
  · skip
    refine Go.s (fun {t} => st2) ?_
    show Go p.tables e below P (T2.setTop (mkF m 9 #[.val (.ref a), .val (.long x), .second, .unset] [(.int (-2 : Int32))]))
    refine Go.s (fun kz => XS.istoreN X2.here hx rfl (hb hby own_d6_9) rfl (l' := #[.val (.ref a), .val (.long x), .second, .val (.int (-2 : Int32))]) rfl kz) ?_
    show Go p.tables e below P (T2.setTop (mkF m 10 #[.val (.ref a), .val (.long x), .second, .val (.int (-2 : Int32))] []))
    refine Go.s (fun kz => XS.iloadN X2.here hx rfl (hb hby own_d6_10) rfl kz) ?_
    show Go p.tables e below P (T2.setTop (mkF m 11 #[.val (.ref a), .val (.long x), .second, .val (.int (-2 : Int32))] [(.int (-2 : Int32))]))
    refine Go.s (fun kz => XS.ifYes X2.here hx rfl (pc0 := 11) (pc' := 18) rfl (hb hby own_d6_11) rfl (XT.i0_lt_t (by decide)) (by decide) (by decide) kz) ?_
    show Go p.tables e below P (T2.setTop (mkF m 18 #[.val (.ref a), .val (.long x), .second, .val (.int (-2 : Int32))] []))
    refine Go.s (fun kz => XS.iloadN X2.here hx rfl (hb hby own_d6_18) rfl kz) ?_
    show Go p.tables e below P (T2.setTop (mkF m 19 #[.val (.ref a), .val (.long x), .second, .val (.int (-2 : Int32))] [(.int (-2 : Int32))]))
    refine Go.s (fun kz => XS.ineg X2.here hx rfl (hb hby own_d6_19) rfl kz) ?_
    show Go p.tables e below P (T2.setTop (mkF m 20 #[.val (.ref a), .val (.long x), .second, .val (.int (-2 : Int32))] [(.int (-(-2 : Int32)))]))
    rw [show (-(-2 : Int32)) = (2 : Int32) from by decide]
    show Go p.tables e below P (T2.setTop (mkF m 20 #[.val (.ref a), .val (.long x), .second, .val (.int (-2 : Int32))] [(.int (2 : Int32))]))
    refine Go.s (fun kz => XS.iconst X2.here hx rfl (hb hby own_d6_20) kz) ?_
    show Go p.tables e below P (T2.setTop (mkF m 21 #[.val (.ref a), .val (.long x), .second, .val (.int (-2 : Int32))] [(.int (1 : Int32)), (.int (2 : Int32))]))
    refine Go.s (fun kz => XS.isub X2.here hx rfl (hb hby own_d6_21) rfl kz) ?_
    show Go p.tables e below P (T2.setTop (mkF m 22 #[.val (.ref a), .val (.long x), .second, .val (.int (-2 : Int32))] [(.int ((2 : Int32) - (1 : Int32)))]))
    rw [show ((2 : Int32) - (1 : Int32)) = (1 : Int32) from by decide]
    show Go p.tables e below P (T2.setTop (mkF m 22 #[.val (.ref a), .val (.long x), .second, .val (.int (-2 : Int32))] [(.int (1 : Int32))]))
    exact Go.retI X2 hx hlk hret (hb hby own_d6_22) (fun U hU hF => hP U _ _ (by rw [hU, e2]; exact ⟨(Or.inr (Or.inr (Or.inr (Or.inl (⟨rfl, k0, k1, k2⟩))))), N2, rfl⟩) ⟨hF.1, hF.2.1, hF.2.2.mono (by decide) (by decide)⟩)
  · skip
    refine Go.s (fun {t} => st2) ?_
    show Go p.tables e below P (T2.setTop (mkF m 9 #[.val (.ref a), .val (.long x), .second, .unset] [(.int (-1 : Int32))]))
    refine Go.s (fun kz => XS.istoreN X2.here hx rfl (hb hby own_d6_9) rfl (l' := #[.val (.ref a), .val (.long x), .second, .val (.int (-1 : Int32))]) rfl kz) ?_
    show Go p.tables e below P (T2.setTop (mkF m 10 #[.val (.ref a), .val (.long x), .second, .val (.int (-1 : Int32))] []))
    refine Go.s (fun kz => XS.iloadN X2.here hx rfl (hb hby own_d6_10) rfl kz) ?_
    show Go p.tables e below P (T2.setTop (mkF m 11 #[.val (.ref a), .val (.long x), .second, .val (.int (-1 : Int32))] [(.int (-1 : Int32))]))
    refine Go.s (fun kz => XS.ifYes X2.here hx rfl (pc0 := 11) (pc' := 18) rfl (hb hby own_d6_11) rfl (XT.i0_lt_t (by decide)) (by decide) (by decide) kz) ?_
    show Go p.tables e below P (T2.setTop (mkF m 18 #[.val (.ref a), .val (.long x), .second, .val (.int (-1 : Int32))] []))
    refine Go.s (fun kz => XS.iloadN X2.here hx rfl (hb hby own_d6_18) rfl kz) ?_
    show Go p.tables e below P (T2.setTop (mkF m 19 #[.val (.ref a), .val (.long x), .second, .val (.int (-1 : Int32))] [(.int (-1 : Int32))]))
    refine Go.s (fun kz => XS.ineg X2.here hx rfl (hb hby own_d6_19) rfl kz) ?_
    show Go p.tables e below P (T2.setTop (mkF m 20 #[.val (.ref a), .val (.long x), .second, .val (.int (-1 : Int32))] [(.int (-(-1 : Int32)))]))
    rw [show (-(-1 : Int32)) = (1 : Int32) from by decide]
    show Go p.tables e below P (T2.setTop (mkF m 20 #[.val (.ref a), .val (.long x), .second, .val (.int (-1 : Int32))] [(.int (1 : Int32))]))
    refine Go.s (fun kz => XS.iconst X2.here hx rfl (hb hby own_d6_20) kz) ?_
    show Go p.tables e below P (T2.setTop (mkF m 21 #[.val (.ref a), .val (.long x), .second, .val (.int (-1 : Int32))] [(.int (1 : Int32)), (.int (1 : Int32))]))
    refine Go.s (fun kz => XS.isub X2.here hx rfl (hb hby own_d6_21) rfl kz) ?_
    show Go p.tables e below P (T2.setTop (mkF m 22 #[.val (.ref a), .val (.long x), .second, .val (.int (-1 : Int32))] [(.int ((1 : Int32) - (1 : Int32)))]))
    rw [show ((1 : Int32) - (1 : Int32)) = (0 : Int32) from by decide]
    show Go p.tables e below P (T2.setTop (mkF m 22 #[.val (.ref a), .val (.long x), .second, .val (.int (-1 : Int32))] [(.int (0 : Int32))]))
    exact Go.retI X2 hx hlk hret (hb hby own_d6_22) (fun U hU hF => hP U _ _ (by rw [hU, e2]; exact ⟨(Or.inr (Or.inr (Or.inr (Or.inr (Or.inl (⟨rfl, k0, k1, k2, k3⟩)))))), N2, rfl⟩) ⟨hF.1, hF.2.1, hF.2.2.mono (by decide) (by decide)⟩)
  · skip
    refine Go.s (fun {t} => st2) ?_
    show Go p.tables e below P (T2.setTop (mkF m 9 #[.val (.ref a), .val (.long x), .second, .unset] [(.int (0 : Int32))]))
    refine Go.s (fun kz => XS.istoreN X2.here hx rfl (hb hby own_d6_9) rfl (l' := #[.val (.ref a), .val (.long x), .second, .val (.int (0 : Int32))]) rfl kz) ?_
    show Go p.tables e below P (T2.setTop (mkF m 10 #[.val (.ref a), .val (.long x), .second, .val (.int (0 : Int32))] []))
    refine Go.s (fun kz => XS.iloadN X2.here hx rfl (hb hby own_d6_10) rfl kz) ?_
    show Go p.tables e below P (T2.setTop (mkF m 11 #[.val (.ref a), .val (.long x), .second, .val (.int (0 : Int32))] [(.int (0 : Int32))]))
    refine Go.s (fun kz => XS.ifNo X2.here hx rfl (hb hby own_d6_11) rfl (XT.i0_lt_f (by decide)) kz) ?_
    show Go p.tables e below P (T2.setTop (mkF m 14 #[.val (.ref a), .val (.long x), .second, .val (.int (0 : Int32))] []))
    refine Go.s (fun kz => XS.iloadN X2.here hx rfl (hb hby own_d6_14) rfl kz) ?_
    show Go p.tables e below P (T2.setTop (mkF m 15 #[.val (.ref a), .val (.long x), .second, .val (.int (0 : Int32))] [(.int (0 : Int32))]))
    refine Go.s (fun kz => XS.goto X2.here hx rfl (pc0 := 15) (pc' := 22) rfl (hb hby own_d6_15) (by decide) (by decide) kz) ?_
    show Go p.tables e below P (T2.setTop (mkF m 22 #[.val (.ref a), .val (.long x), .second, .val (.int (0 : Int32))] [(.int (0 : Int32))]))
    exact Go.retI X2 hx hlk hret (hb hby own_d6_22) (fun U hU hF => hP U _ _ (by rw [hU, e2]; exact ⟨(Or.inr (Or.inr (Or.inr (Or.inr (Or.inr (Or.inl (⟨rfl, k0, k1, k2, k3⟩))))))), N2, rfl⟩) ⟨hF.1, hF.2.1, hF.2.2.mono (by decide) (by decide)⟩)
  · skip
    refine Go.s (fun {t} => st2) ?_
    show Go p.tables e below P (T2.setTop (mkF m 9 #[.val (.ref a), .val (.long x), .second, .unset] [(.int (1 : Int32))]))
    refine Go.s (fun kz => XS.istoreN X2.here hx rfl (hb hby own_d6_9) rfl (l' := #[.val (.ref a), .val (.long x), .second, .val (.int (1 : Int32))]) rfl kz) ?_
    show Go p.tables e below P (T2.setTop (mkF m 10 #[.val (.ref a), .val (.long x), .second, .val (.int (1 : Int32))] []))
    refine Go.s (fun kz => XS.iloadN X2.here hx rfl (hb hby own_d6_10) rfl kz) ?_
    show Go p.tables e below P (T2.setTop (mkF m 11 #[.val (.ref a), .val (.long x), .second, .val (.int (1 : Int32))] [(.int (1 : Int32))]))
    refine Go.s (fun kz => XS.ifNo X2.here hx rfl (hb hby own_d6_11) rfl (XT.i0_lt_f (by decide)) kz) ?_
    show Go p.tables e below P (T2.setTop (mkF m 14 #[.val (.ref a), .val (.long x), .second, .val (.int (1 : Int32))] []))
    refine Go.s (fun kz => XS.iloadN X2.here hx rfl (hb hby own_d6_14) rfl kz) ?_
    show Go p.tables e below P (T2.setTop (mkF m 15 #[.val (.ref a), .val (.long x), .second, .val (.int (1 : Int32))] [(.int (1 : Int32))]))
    refine Go.s (fun kz => XS.goto X2.here hx rfl (pc0 := 15) (pc' := 22) rfl (hb hby own_d6_15) (by decide) (by decide) kz) ?_
    show Go p.tables e below P (T2.setTop (mkF m 22 #[.val (.ref a), .val (.long x), .second, .val (.int (1 : Int32))] [(.int (1 : Int32))]))
    exact Go.retI X2 hx hlk hret (hb hby own_d6_22) (fun U hU hF => hP U _ _ (by rw [hU, e2]; exact ⟨(Or.inr (Or.inr (Or.inr (Or.inr (Or.inr (Or.inr (⟨rfl, k0, k1⟩))))))), N2, rfl⟩) ⟨hF.1, hF.2.1, hF.2.2.mono (by decide) (by decide)⟩)
theorem own_ef3_3 (m : MethodId) (a : Addr) (tt : Int64) : entryFrame m #[(.ref a), (.long tt)] 8 = mkF m 0 #[.val (.ref a), .val (.long tt), .second, .unset, .unset, .unset, .unset, .unset] [] := by
  (first | (simp [entryFrame, mkF, argsToLocals, Value.category]; done) | rfl)
set_option maxRecDepth 65536 in
set_option maxHeartbeats 40000000 in
theorem own_rm3_3 (l : Launch) (Z : State) (a0 : Array Value) (hw : ∀ d ∈ tables_1, d.before a0 Z = true) (ws : List Jvm.Cond) (a b kk : Nat) (tt : Int64) (s0 s1 s2 : Int32) (h0 : Heap) (n0 : Nat) (Z0 : n0 ≤ h0.size) (V_b : Arv Z h0 b kk .int 3 [.int s0, .int s1, .int s2] (.int (0 : Int32))) (F_s : Fld Z h0 a "com/example/tempo_feed/tempofeed/core/DailyPolls" "secondsOfDay" "[I" (.ref b)) (E_a : Exa Z h0 a "com/example/tempo_feed/tempofeed/core/DailyPolls") :
    Con l Z (⟨"com/example/tempo_feed/tempofeed/core/DailyPolls", "firstAtOrAfter", "(J)J"⟩ : MethodName) prog_13_method_2_code 8 (some .long) ws ({ frames := 3, cells := 0, slots := 0, locals := 47 } : Room) #[(.ref a), (.long tt)] h0 (fun v h L => ((v = some (.long (((own_f4 tt (86400 : Int64)) + (1 : Int64)) * (86400 : Int64) + s0.toInt64)) ∧ s1 < (own_f5 tt 86400).toInt32 ∧ s2 < (own_f5 tt 86400).toInt32) ∨ (v = some (.long ((own_f4 tt (86400 : Int64)) * (86400 : Int64) + s2.toInt64)) ∧ s1 < (own_f5 tt 86400).toInt32 ∧ ¬ s2 < (own_f5 tt 86400).toInt32 ∧ (own_f5 tt 86400).toInt32 < s2) ∨ (v = some (.long ((own_f4 tt (86400 : Int64)) * (86400 : Int64) + s2.toInt64)) ∧ s1 < (own_f5 tt 86400).toInt32 ∧ ¬ s2 < (own_f5 tt 86400).toInt32 ∧ ¬ (own_f5 tt 86400).toInt32 < s2) ∨ (v = some (.long ((own_f4 tt (86400 : Int64)) * (86400 : Int64) + s1.toInt64)) ∧ ¬ s1 < (own_f5 tt 86400).toInt32 ∧ (own_f5 tt 86400).toInt32 < s1 ∧ s0 < (own_f5 tt 86400).toInt32) ∨ (v = some (.long ((own_f4 tt (86400 : Int64)) * (86400 : Int64) + s0.toInt64)) ∧ ¬ s1 < (own_f5 tt 86400).toInt32 ∧ (own_f5 tt 86400).toInt32 < s1 ∧ ¬ s0 < (own_f5 tt 86400).toInt32 ∧ (own_f5 tt 86400).toInt32 < s0) ∨ (v = some (.long ((own_f4 tt (86400 : Int64)) * (86400 : Int64) + s0.toInt64)) ∧ ¬ s1 < (own_f5 tt 86400).toInt32 ∧ (own_f5 tt 86400).toInt32 < s1 ∧ ¬ s0 < (own_f5 tt 86400).toInt32 ∧ ¬ (own_f5 tt 86400).toInt32 < s0) ∨ (v = some (.long ((own_f4 tt (86400 : Int64)) * (86400 : Int64) + s1.toInt64)) ∧ ¬ s1 < (own_f5 tt 86400).toInt32 ∧ ¬ (own_f5 tt 86400).toInt32 < s1)) ∧ Fr n0 L ∧ h = h0) := by
  refine Con.intro (plainFor_of_name own_pn_0) ?_
  intro p e s m below meth c s₁ P hx hby hml hown hnm hret hlk hZ X0 e0 hP
  have N0 := Fr.nil n0
  have hown : s.vm.findClass "com/example/tempo_feed/tempofeed/core/DailyPolls" = some m.cls := hown
  refine Go.cast (own_ef3_3 m a tt) ?_
  show Go p.tables e below P (s₁.setTop (mkF m 0 #[.val (.ref a), .val (.long tt), .second, .unset, .unset, .unset, .unset, .unset] []))
  refine Go.s (fun kz => XT.lloadN X0.here hx rfl (hb hby own_d3_0) rfl kz) ?_
  show Go p.tables e below P (s₁.setTop (mkF m 1 #[.val (.ref a), .val (.long tt), .second, .unset, .unset, .unset, .unset, .unset] [(.long tt)]))
  refine Go.s (fun kz => X0.ldc2J hx hown (mvT hZ (hw _ (List.mem_of_getElem? (i := 19) rfl))) rfl (hb hby own_d3_1) kz) ?_
  show Go p.tables e below P (s₁.setTop (mkF m 4 #[.val (.ref a), .val (.long tt), .second, .unset, .unset, .unset, .unset, .unset] [(.long (86400 : Int64)), (.long tt)]))
  obtain ⟨v1, T1, L1, X1, Q1, st1⟩ := Con.static (own_rm4 l Z a0 hw [] tt (86400 : Int64) h0 n0 Z0  (by decide)) X0 hx hZ (W := 0) hown (hw _ (List.mem_of_getElem? (i := 20) rfl)) (hw _ (List.mem_of_getElem? (i := 21) rfl)) (hw _ (List.mem_of_getElem? (i := 22) rfl)) (hw _ (List.mem_of_getElem? (i := 23) rfl)) (by decide) (by decide) (by decide) (by decide) (by decide) e0 (g := (mkF m 4 #[.val (.ref a), .val (.long tt), .second, .unset, .unset, .unset, .unset, .unset] [(.long (86400 : Int64)), (.long tt)])) rfl (by rw [hml]; rfl) (argsL := [(.long tt), (.long (86400 : Int64))]) (rest := []) rfl (lenOf own_pd_2 rfl) rfl (by show 2 * 0 + _ ≤ _; exact Nat.le_of_eq rfl) (hb hby own_d3_4)
  obtain ⟨rfl, Nq1, e1⟩ := Q1
  have N1 := Fr.app N0 Nq1
  refine Go.s (fun {t} => st1) ?_
  show Go p.tables e below P (T1.setTop (mkF m 7 #[.val (.ref a), .val (.long tt), .second, .unset, .unset, .unset, .unset, .unset] [(.long (own_f4 tt (86400 : Int64)))]))
  refine Go.s (fun kz => XT.lstoreN X1.here hx rfl (hb hby own_d3_7) rfl (l' := #[.val (.ref a), .val (.long tt), .second, .val (.long (own_f4 tt (86400 : Int64))), .second, .unset, .unset, .unset]) rfl kz) ?_
  show Go p.tables e below P (T1.setTop (mkF m 8 #[.val (.ref a), .val (.long tt), .second, .val (.long (own_f4 tt (86400 : Int64))), .second, .unset, .unset, .unset] []))
  refine Go.s (fun kz => XS.aloadN X1.here hx rfl (hb hby own_d3_8) rfl rfl kz) ?_
  show Go p.tables e below P (T1.setTop (mkF m 9 #[.val (.ref a), .val (.long tt), .second, .val (.long (own_f4 tt (86400 : Int64))), .second, .unset, .unset, .unset] [(.ref a)]))
  refine Go.s (fun kz => XT.lloadN X1.here hx rfl (hb hby own_d3_9) rfl kz) ?_
  show Go p.tables e below P (T1.setTop (mkF m 10 #[.val (.ref a), .val (.long tt), .second, .val (.long (own_f4 tt (86400 : Int64))), .second, .unset, .unset, .unset] [(.long tt), (.ref a)]))
  refine Go.s (fun kz => X1.ldc2J hx hown (mvT hZ (hw _ (List.mem_of_getElem? (i := 19) rfl))) rfl (hb hby own_d3_10) kz) ?_
  show Go p.tables e below P (T1.setTop (mkF m 13 #[.val (.ref a), .val (.long tt), .second, .val (.long (own_f4 tt (86400 : Int64))), .second, .unset, .unset, .unset] [(.long (86400 : Int64)), (.long tt), (.ref a)]))
  obtain ⟨v2, T2, L2, X2, Q2, st2⟩ := Con.static (own_rm5 l Z a0 hw [] tt (86400 : Int64) h0 n0 Z0  (by decide)) X1 hx hZ (W := 1) hown (hw _ (List.mem_of_getElem? (i := 24) rfl)) (hw _ (List.mem_of_getElem? (i := 25) rfl)) (hw _ (List.mem_of_getElem? (i := 22) rfl)) (hw _ (List.mem_of_getElem? (i := 26) rfl)) (by decide) (by decide) (by decide) (by decide) (by decide) e1 (g := (mkF m 13 #[.val (.ref a), .val (.long tt), .second, .val (.long (own_f4 tt (86400 : Int64))), .second, .unset, .unset, .unset] [(.long (86400 : Int64)), (.long tt), (.ref a)])) rfl (by rw [hml]; rfl) (argsL := [(.long tt), (.long (86400 : Int64))]) (rest := [(.ref a)]) rfl (lenOf own_pd_2 rfl) rfl (by show 2 * 0 + _ ≤ _; exact Nat.le_of_eq rfl) (hb hby own_d3_13)
  obtain ⟨rfl, Nq2, e2⟩ := Q2
  have N2 := Fr.app N1 Nq2
  refine Go.s (fun {t} => st2) ?_
  show Go p.tables e below P (T2.setTop (mkF m 16 #[.val (.ref a), .val (.long tt), .second, .val (.long (own_f4 tt (86400 : Int64))), .second, .unset, .unset, .unset] [(.long (own_f5 tt (86400 : Int64))), (.ref a)]))
  obtain ⟨v3, T3, L3, X3, Q3, st3⟩ := Con.priv (own_rm6_3 l Z a0 hw [] a b kk (own_f5 tt (86400 : Int64)) s0 s1 s2 h0 n0 Z0 V_b F_s) X2 hx hZ (W := 0) hown (hw _ (List.mem_of_getElem? (i := 27) rfl)) (hw _ (List.mem_of_getElem? (i := 4) rfl)) (hw _ (List.mem_of_getElem? (i := 29) rfl)) (hw _ (List.mem_of_getElem? (i := 28) rfl)) (hw _ (List.mem_of_getElem? (i := 5) rfl)) (hw _ (List.mem_of_getElem? (i := 30) rfl)) (by decide) (by decide) (by decide) (by decide) (by decide) e2 (g := (mkF m 16 #[.val (.ref a), .val (.long tt), .second, .val (.long (own_f4 tt (86400 : Int64))), .second, .unset, .unset, .unset] [(.long (own_f5 tt (86400 : Int64))), (.ref a)])) rfl (by rw [hml]; rfl) E_a (argsL := [(.long (own_f5 tt (86400 : Int64)))]) (rest := []) rfl (lenOf own_pd_3 rfl) rfl (by show 2 * 0 + _ ≤ _; exact Nat.le_of_eq rfl) (hb hby own_d3_16)
  obtain ⟨hd3, Nq3, e3⟩ := Q3
  have N3 := Fr.app N2 Nq3
  rcases hd3 with ⟨rfl, k0, k1⟩ | ⟨rfl, k0, k1, k2⟩ | ⟨rfl, k0, k1, k2⟩ | ⟨rfl, k0, k1, k2⟩ | ⟨rfl, k0, k1, k2, k3⟩ | ⟨rfl, k0, k1, k2, k3⟩ | ⟨rfl, k0, k1⟩
  · skip
    refine Go.s (fun {t} => st3) ?_
    show Go p.tables e below P (T3.setTop (mkF m 19 #[.val (.ref a), .val (.long tt), .second, .val (.long (own_f4 tt (86400 : Int64))), .second, .unset, .unset, .unset] [(.int (3 : Int32))]))
    refine Go.s (fun kz => XS.istore X3.here hx rfl (hb hby own_d3_19) rfl (l' := #[.val (.ref a), .val (.long tt), .second, .val (.long (own_f4 tt (86400 : Int64))), .second, .val (.int (3 : Int32)), .unset, .unset]) rfl kz) ?_
    show Go p.tables e below P (T3.setTop (mkF m 21 #[.val (.ref a), .val (.long tt), .second, .val (.long (own_f4 tt (86400 : Int64))), .second, .val (.int (3 : Int32)), .unset, .unset] []))
    refine Go.s (fun kz => XS.iload X3.here hx rfl (hb hby own_d3_21) rfl kz) ?_
    show Go p.tables e below P (T3.setTop (mkF m 23 #[.val (.ref a), .val (.long tt), .second, .val (.long (own_f4 tt (86400 : Int64))), .second, .val (.int (3 : Int32)), .unset, .unset] [(.int (3 : Int32))]))
    refine Go.s (fun kz => XS.aloadN X3.here hx rfl (hb hby own_d3_23) rfl rfl kz) ?_
    show Go p.tables e below P (T3.setTop (mkF m 24 #[.val (.ref a), .val (.long tt), .second, .val (.long (own_f4 tt (86400 : Int64))), .second, .val (.int (3 : Int32)), .unset, .unset] [(.ref a), (.int (3 : Int32))]))
    obtain ⟨T4, X4, e4, st4⟩ := getF X3 hx hZ hown (host := "") (Or.inl (hw _ (List.mem_of_getElem? (i := 12) rfl))) Via.refl e3 F_s (g := (mkF m 24 #[.val (.ref a), .val (.long tt), .second, .val (.long (own_f4 tt (86400 : Int64))), .second, .val (.int (3 : Int32)), .unset, .unset] [(.ref a), (.int (3 : Int32))])) rfl rfl (hb hby own_d3_24)
    refine Go.s (fun {t} => st4 t) ?_
    show Go p.tables e below P (T4.setTop (mkF m 27 #[.val (.ref a), .val (.long tt), .second, .val (.long (own_f4 tt (86400 : Int64))), .second, .val (.int (3 : Int32)), .unset, .unset] [(.ref b), (.int (3 : Int32))]))
    obtain ⟨cl5, Ar5, q5, Sz5, Ng5, Ha5, Ft5⟩ := id V_b
    refine Go.s (fun {t} kz => X4.arraylength hx (by rw [e4]; exact Ar5.1) (State.isArrayOf_alike hZ.alike Ar5.2.1) (g := (mkF m 27 #[.val (.ref a), .val (.long tt), .second, .val (.long (own_f4 tt (86400 : Int64))), .second, .val (.int (3 : Int32)), .unset, .unset] [(.ref b), (.int (3 : Int32))])) rfl rfl (hb hby own_d3_27) _ kz) ?_
    rw [len_of Sz5 Ng5]
    show Go p.tables e below P (T4.setTop (mkF m 28 #[.val (.ref a), .val (.long tt), .second, .val (.long (own_f4 tt (86400 : Int64))), .second, .val (.int (3 : Int32)), .unset, .unset] [(.int (3 : Int32)), (.int (3 : Int32))]))
    refine Go.s (fun kz => XS.icmpYes X4.here hx rfl (pc0 := 28) (pc' := 50) rfl (hb hby own_d3_28) rfl (XT.ii_ge_t (by decide)) (by decide) (by decide) kz) ?_
    show Go p.tables e below P (T4.setTop (mkF m 50 #[.val (.ref a), .val (.long tt), .second, .val (.long (own_f4 tt (86400 : Int64))), .second, .val (.int (3 : Int32)), .unset, .unset] []))
    refine Go.s (fun kz => XT.lloadN X4.here hx rfl (hb hby own_d3_50) rfl kz) ?_
    show Go p.tables e below P (T4.setTop (mkF m 51 #[.val (.ref a), .val (.long tt), .second, .val (.long (own_f4 tt (86400 : Int64))), .second, .val (.int (3 : Int32)), .unset, .unset] [(.long (own_f4 tt (86400 : Int64)))]))
    refine Go.s (fun kz => XT.lconst X4.here hx rfl (hb hby own_d3_51) kz) ?_
    show Go p.tables e below P (T4.setTop (mkF m 52 #[.val (.ref a), .val (.long tt), .second, .val (.long (own_f4 tt (86400 : Int64))), .second, .val (.int (3 : Int32)), .unset, .unset] [(.long (1 : Int64)), (.long (own_f4 tt (86400 : Int64)))]))
    refine Go.s (fun kz => XT.ladd X4.here hx rfl (hb hby own_d3_52) rfl kz) ?_
    show Go p.tables e below P (T4.setTop (mkF m 53 #[.val (.ref a), .val (.long tt), .second, .val (.long (own_f4 tt (86400 : Int64))), .second, .val (.int (3 : Int32)), .unset, .unset] [(.long ((own_f4 tt (86400 : Int64)) + (1 : Int64)))]))
    refine Go.s (fun kz => X4.ldc2J hx hown (mvT hZ (hw _ (List.mem_of_getElem? (i := 19) rfl))) rfl (hb hby own_d3_53) kz) ?_
    show Go p.tables e below P (T4.setTop (mkF m 56 #[.val (.ref a), .val (.long tt), .second, .val (.long (own_f4 tt (86400 : Int64))), .second, .val (.int (3 : Int32)), .unset, .unset] [(.long (86400 : Int64)), (.long ((own_f4 tt (86400 : Int64)) + (1 : Int64)))]))
    refine Go.s (fun kz => XT.lmul X4.here hx rfl (hb hby own_d3_56) rfl kz) ?_
    show Go p.tables e below P (T4.setTop (mkF m 57 #[.val (.ref a), .val (.long tt), .second, .val (.long (own_f4 tt (86400 : Int64))), .second, .val (.int (3 : Int32)), .unset, .unset] [(.long (((own_f4 tt (86400 : Int64)) + (1 : Int64)) * (86400 : Int64)))]))
    refine Go.s (fun kz => XS.aloadN X4.here hx rfl (hb hby own_d3_57) rfl rfl kz) ?_
    show Go p.tables e below P (T4.setTop (mkF m 58 #[.val (.ref a), .val (.long tt), .second, .val (.long (own_f4 tt (86400 : Int64))), .second, .val (.int (3 : Int32)), .unset, .unset] [(.ref a), (.long (((own_f4 tt (86400 : Int64)) + (1 : Int64)) * (86400 : Int64)))]))
    obtain ⟨T6, X6, e6, st6⟩ := getF X4 hx hZ hown (host := "") (Or.inl (hw _ (List.mem_of_getElem? (i := 12) rfl))) Via.refl e4 F_s (g := (mkF m 58 #[.val (.ref a), .val (.long tt), .second, .val (.long (own_f4 tt (86400 : Int64))), .second, .val (.int (3 : Int32)), .unset, .unset] [(.ref a), (.long (((own_f4 tt (86400 : Int64)) + (1 : Int64)) * (86400 : Int64)))])) rfl rfl (hb hby own_d3_58)
    refine Go.s (fun {t} => st6 t) ?_
    show Go p.tables e below P (T6.setTop (mkF m 61 #[.val (.ref a), .val (.long tt), .second, .val (.long (own_f4 tt (86400 : Int64))), .second, .val (.int (3 : Int32)), .unset, .unset] [(.ref b), (.long (((own_f4 tt (86400 : Int64)) + (1 : Int64)) * (86400 : Int64)))]))
    refine Go.s (fun kz => XS.iconst X6.here hx rfl (hb hby own_d3_61) kz) ?_
    show Go p.tables e below P (T6.setTop (mkF m 62 #[.val (.ref a), .val (.long tt), .second, .val (.long (own_f4 tt (86400 : Int64))), .second, .val (.int (3 : Int32)), .unset, .unset] [(.int (0 : Int32)), (.ref b), (.long (((own_f4 tt (86400 : Int64)) + (1 : Int64)) * (86400 : Int64)))]))
    obtain ⟨cl7, Ar7, q7, Sz7, Ng7, Ha7, Ft7⟩ := id V_b
    have hin7 := inb_of (j := (0 : Int32)) Sz7 ⟨by decide, by decide⟩
    have hat7 := Has.at Ha7 hin7 (v := (.int s0)) rfl
    refine Go.s (fun {t} kz => X6.iaload hx (j := (0 : Int32)) (v := (.int s0)) (by rw [e6]; exact Ar7.1) (State.isArrayOf_alike hZ.alike Ar7.2.1) Ar7.2.2 hin7 hat7 (g := (mkF m 62 #[.val (.ref a), .val (.long tt), .second, .val (.long (own_f4 tt (86400 : Int64))), .second, .val (.int (3 : Int32)), .unset, .unset] [(.int (0 : Int32)), (.ref b), (.long (((own_f4 tt (86400 : Int64)) + (1 : Int64)) * (86400 : Int64)))])) rfl rfl (hb hby own_d3_62) _ kz) ?_
    show Go p.tables e below P (T6.setTop (mkF m 63 #[.val (.ref a), .val (.long tt), .second, .val (.long (own_f4 tt (86400 : Int64))), .second, .val (.int (3 : Int32)), .unset, .unset] [(.int s0), (.long (((own_f4 tt (86400 : Int64)) + (1 : Int64)) * (86400 : Int64)))]))
    refine Go.s (fun kz => XT.i2l X6.here hx rfl (hb hby own_d3_63) rfl kz) ?_
    show Go p.tables e below P (T6.setTop (mkF m 64 #[.val (.ref a), .val (.long tt), .second, .val (.long (own_f4 tt (86400 : Int64))), .second, .val (.int (3 : Int32)), .unset, .unset] [(.long s0.toInt64), (.long (((own_f4 tt (86400 : Int64)) + (1 : Int64)) * (86400 : Int64)))]))
    refine Go.s (fun kz => XT.ladd X6.here hx rfl (hb hby own_d3_64) rfl kz) ?_
    show Go p.tables e below P (T6.setTop (mkF m 65 #[.val (.ref a), .val (.long tt), .second, .val (.long (own_f4 tt (86400 : Int64))), .second, .val (.int (3 : Int32)), .unset, .unset] [(.long ((((own_f4 tt (86400 : Int64)) + (1 : Int64)) * (86400 : Int64)) + s0.toInt64))]))
    refine Go.s (fun kz => XT.lstore X6.here hx rfl (hb hby own_d3_65) rfl (l' := #[.val (.ref a), .val (.long tt), .second, .val (.long (own_f4 tt (86400 : Int64))), .second, .val (.int (3 : Int32)), .val (.long ((((own_f4 tt (86400 : Int64)) + (1 : Int64)) * (86400 : Int64)) + s0.toInt64)), .second]) rfl kz) ?_
    show Go p.tables e below P (T6.setTop (mkF m 67 #[.val (.ref a), .val (.long tt), .second, .val (.long (own_f4 tt (86400 : Int64))), .second, .val (.int (3 : Int32)), .val (.long ((((own_f4 tt (86400 : Int64)) + (1 : Int64)) * (86400 : Int64)) + s0.toInt64)), .second] []))
    refine Go.s (fun kz => XT.lload X6.here hx rfl (hb hby own_d3_67) rfl kz) ?_
    show Go p.tables e below P (T6.setTop (mkF m 69 #[.val (.ref a), .val (.long tt), .second, .val (.long (own_f4 tt (86400 : Int64))), .second, .val (.int (3 : Int32)), .val (.long ((((own_f4 tt (86400 : Int64)) + (1 : Int64)) * (86400 : Int64)) + s0.toInt64)), .second] [(.long ((((own_f4 tt (86400 : Int64)) + (1 : Int64)) * (86400 : Int64)) + s0.toInt64))]))
    exact Go.retJ X6 hx hlk hret (hb hby own_d3_69) (fun U hU hF => hP U _ _ (by rw [hU, e6]; exact ⟨(Or.inl (⟨rfl, k0, k1⟩)), N3, rfl⟩) ⟨hF.1, hF.2.1, hF.2.2.mono (by decide) (by decide)⟩)
  · skip
    refine Go.s (fun {t} => st3) ?_
    show Go p.tables e below P (T3.setTop (mkF m 19 #[.val (.ref a), .val (.long tt), .second, .val (.long (own_f4 tt (86400 : Int64))), .second, .unset, .unset, .unset] [(.int (2 : Int32))]))
    refine Go.s (fun kz => XS.istore X3.here hx rfl (hb hby own_d3_19) rfl (l' := #[.val (.ref a), .val (.long tt), .second, .val (.long (own_f4 tt (86400 : Int64))), .second, .val (.int (2 : Int32)), .unset, .unset]) rfl kz) ?_
    show Go p.tables e below P (T3.setTop (mkF m 21 #[.val (.ref a), .val (.long tt), .second, .val (.long (own_f4 tt (86400 : Int64))), .second, .val (.int (2 : Int32)), .unset, .unset] []))
    refine Go.s (fun kz => XS.iload X3.here hx rfl (hb hby own_d3_21) rfl kz) ?_
    show Go p.tables e below P (T3.setTop (mkF m 23 #[.val (.ref a), .val (.long tt), .second, .val (.long (own_f4 tt (86400 : Int64))), .second, .val (.int (2 : Int32)), .unset, .unset] [(.int (2 : Int32))]))
    refine Go.s (fun kz => XS.aloadN X3.here hx rfl (hb hby own_d3_23) rfl rfl kz) ?_
    show Go p.tables e below P (T3.setTop (mkF m 24 #[.val (.ref a), .val (.long tt), .second, .val (.long (own_f4 tt (86400 : Int64))), .second, .val (.int (2 : Int32)), .unset, .unset] [(.ref a), (.int (2 : Int32))]))
    obtain ⟨T8, X8, e8, st8⟩ := getF X3 hx hZ hown (host := "") (Or.inl (hw _ (List.mem_of_getElem? (i := 12) rfl))) Via.refl e3 F_s (g := (mkF m 24 #[.val (.ref a), .val (.long tt), .second, .val (.long (own_f4 tt (86400 : Int64))), .second, .val (.int (2 : Int32)), .unset, .unset] [(.ref a), (.int (2 : Int32))])) rfl rfl (hb hby own_d3_24)
    refine Go.s (fun {t} => st8 t) ?_
    show Go p.tables e below P (T8.setTop (mkF m 27 #[.val (.ref a), .val (.long tt), .second, .val (.long (own_f4 tt (86400 : Int64))), .second, .val (.int (2 : Int32)), .unset, .unset] [(.ref b), (.int (2 : Int32))]))
    obtain ⟨cl9, Ar9, q9, Sz9, Ng9, Ha9, Ft9⟩ := id V_b
    refine Go.s (fun {t} kz => X8.arraylength hx (by rw [e8]; exact Ar9.1) (State.isArrayOf_alike hZ.alike Ar9.2.1) (g := (mkF m 27 #[.val (.ref a), .val (.long tt), .second, .val (.long (own_f4 tt (86400 : Int64))), .second, .val (.int (2 : Int32)), .unset, .unset] [(.ref b), (.int (2 : Int32))])) rfl rfl (hb hby own_d3_27) _ kz) ?_
    rw [len_of Sz9 Ng9]
    show Go p.tables e below P (T8.setTop (mkF m 28 #[.val (.ref a), .val (.long tt), .second, .val (.long (own_f4 tt (86400 : Int64))), .second, .val (.int (2 : Int32)), .unset, .unset] [(.int (3 : Int32)), (.int (2 : Int32))]))
    refine Go.s (fun kz => XS.icmpNo X8.here hx rfl (hb hby own_d3_28) rfl (XT.ii_ge_f (by decide)) kz) ?_
    show Go p.tables e below P (T8.setTop (mkF m 31 #[.val (.ref a), .val (.long tt), .second, .val (.long (own_f4 tt (86400 : Int64))), .second, .val (.int (2 : Int32)), .unset, .unset] []))
    refine Go.s (fun kz => XT.lloadN X8.here hx rfl (hb hby own_d3_31) rfl kz) ?_
    show Go p.tables e below P (T8.setTop (mkF m 32 #[.val (.ref a), .val (.long tt), .second, .val (.long (own_f4 tt (86400 : Int64))), .second, .val (.int (2 : Int32)), .unset, .unset] [(.long (own_f4 tt (86400 : Int64)))]))
    refine Go.s (fun kz => X8.ldc2J hx hown (mvT hZ (hw _ (List.mem_of_getElem? (i := 19) rfl))) rfl (hb hby own_d3_32) kz) ?_
    show Go p.tables e below P (T8.setTop (mkF m 35 #[.val (.ref a), .val (.long tt), .second, .val (.long (own_f4 tt (86400 : Int64))), .second, .val (.int (2 : Int32)), .unset, .unset] [(.long (86400 : Int64)), (.long (own_f4 tt (86400 : Int64)))]))
    refine Go.s (fun kz => XT.lmul X8.here hx rfl (hb hby own_d3_35) rfl kz) ?_
    show Go p.tables e below P (T8.setTop (mkF m 36 #[.val (.ref a), .val (.long tt), .second, .val (.long (own_f4 tt (86400 : Int64))), .second, .val (.int (2 : Int32)), .unset, .unset] [(.long ((own_f4 tt (86400 : Int64)) * (86400 : Int64)))]))
    refine Go.s (fun kz => XS.aloadN X8.here hx rfl (hb hby own_d3_36) rfl rfl kz) ?_
    show Go p.tables e below P (T8.setTop (mkF m 37 #[.val (.ref a), .val (.long tt), .second, .val (.long (own_f4 tt (86400 : Int64))), .second, .val (.int (2 : Int32)), .unset, .unset] [(.ref a), (.long ((own_f4 tt (86400 : Int64)) * (86400 : Int64)))]))
    obtain ⟨T10, X10, e10, st10⟩ := getF X8 hx hZ hown (host := "") (Or.inl (hw _ (List.mem_of_getElem? (i := 12) rfl))) Via.refl e8 F_s (g := (mkF m 37 #[.val (.ref a), .val (.long tt), .second, .val (.long (own_f4 tt (86400 : Int64))), .second, .val (.int (2 : Int32)), .unset, .unset] [(.ref a), (.long ((own_f4 tt (86400 : Int64)) * (86400 : Int64)))])) rfl rfl (hb hby own_d3_37)
    refine Go.s (fun {t} => st10 t) ?_
    show Go p.tables e below P (T10.setTop (mkF m 40 #[.val (.ref a), .val (.long tt), .second, .val (.long (own_f4 tt (86400 : Int64))), .second, .val (.int (2 : Int32)), .unset, .unset] [(.ref b), (.long ((own_f4 tt (86400 : Int64)) * (86400 : Int64)))]))
    refine Go.s (fun kz => XS.iload X10.here hx rfl (hb hby own_d3_40) rfl kz) ?_
    show Go p.tables e below P (T10.setTop (mkF m 42 #[.val (.ref a), .val (.long tt), .second, .val (.long (own_f4 tt (86400 : Int64))), .second, .val (.int (2 : Int32)), .unset, .unset] [(.int (2 : Int32)), (.ref b), (.long ((own_f4 tt (86400 : Int64)) * (86400 : Int64)))]))
    obtain ⟨cl11, Ar11, q11, Sz11, Ng11, Ha11, Ft11⟩ := id V_b
    have hin11 := inb_of (j := (2 : Int32)) Sz11 ⟨by decide, by decide⟩
    have hat11 := Has.at Ha11 hin11 (v := (.int s2)) rfl
    refine Go.s (fun {t} kz => X10.iaload hx (j := (2 : Int32)) (v := (.int s2)) (by rw [e10]; exact Ar11.1) (State.isArrayOf_alike hZ.alike Ar11.2.1) Ar11.2.2 hin11 hat11 (g := (mkF m 42 #[.val (.ref a), .val (.long tt), .second, .val (.long (own_f4 tt (86400 : Int64))), .second, .val (.int (2 : Int32)), .unset, .unset] [(.int (2 : Int32)), (.ref b), (.long ((own_f4 tt (86400 : Int64)) * (86400 : Int64)))])) rfl rfl (hb hby own_d3_42) _ kz) ?_
    show Go p.tables e below P (T10.setTop (mkF m 43 #[.val (.ref a), .val (.long tt), .second, .val (.long (own_f4 tt (86400 : Int64))), .second, .val (.int (2 : Int32)), .unset, .unset] [(.int s2), (.long ((own_f4 tt (86400 : Int64)) * (86400 : Int64)))]))
    refine Go.s (fun kz => XT.i2l X10.here hx rfl (hb hby own_d3_43) rfl kz) ?_
    show Go p.tables e below P (T10.setTop (mkF m 44 #[.val (.ref a), .val (.long tt), .second, .val (.long (own_f4 tt (86400 : Int64))), .second, .val (.int (2 : Int32)), .unset, .unset] [(.long s2.toInt64), (.long ((own_f4 tt (86400 : Int64)) * (86400 : Int64)))]))
    refine Go.s (fun kz => XT.ladd X10.here hx rfl (hb hby own_d3_44) rfl kz) ?_
    show Go p.tables e below P (T10.setTop (mkF m 45 #[.val (.ref a), .val (.long tt), .second, .val (.long (own_f4 tt (86400 : Int64))), .second, .val (.int (2 : Int32)), .unset, .unset] [(.long (((own_f4 tt (86400 : Int64)) * (86400 : Int64)) + s2.toInt64))]))
    refine Go.s (fun kz => XT.lstore X10.here hx rfl (hb hby own_d3_45) rfl (l' := #[.val (.ref a), .val (.long tt), .second, .val (.long (own_f4 tt (86400 : Int64))), .second, .val (.int (2 : Int32)), .val (.long (((own_f4 tt (86400 : Int64)) * (86400 : Int64)) + s2.toInt64)), .second]) rfl kz) ?_
    show Go p.tables e below P (T10.setTop (mkF m 47 #[.val (.ref a), .val (.long tt), .second, .val (.long (own_f4 tt (86400 : Int64))), .second, .val (.int (2 : Int32)), .val (.long (((own_f4 tt (86400 : Int64)) * (86400 : Int64)) + s2.toInt64)), .second] []))
    refine Go.s (fun kz => XS.goto X10.here hx rfl (pc0 := 47) (pc' := 67) rfl (hb hby own_d3_47) (by decide) (by decide) kz) ?_
    show Go p.tables e below P (T10.setTop (mkF m 67 #[.val (.ref a), .val (.long tt), .second, .val (.long (own_f4 tt (86400 : Int64))), .second, .val (.int (2 : Int32)), .val (.long (((own_f4 tt (86400 : Int64)) * (86400 : Int64)) + s2.toInt64)), .second] []))
    refine Go.s (fun kz => XT.lload X10.here hx rfl (hb hby own_d3_67) rfl kz) ?_
    show Go p.tables e below P (T10.setTop (mkF m 69 #[.val (.ref a), .val (.long tt), .second, .val (.long (own_f4 tt (86400 : Int64))), .second, .val (.int (2 : Int32)), .val (.long (((own_f4 tt (86400 : Int64)) * (86400 : Int64)) + s2.toInt64)), .second] [(.long (((own_f4 tt (86400 : Int64)) * (86400 : Int64)) + s2.toInt64))]))
    exact Go.retJ X10 hx hlk hret (hb hby own_d3_69) (fun U hU hF => hP U _ _ (by rw [hU, e10]; exact ⟨(Or.inr (Or.inl (⟨rfl, k0, k1, k2⟩))), N3, rfl⟩) ⟨hF.1, hF.2.1, hF.2.2.mono (by decide) (by decide)⟩)
  · skip
    refine Go.s (fun {t} => st3) ?_
    show Go p.tables e below P (T3.setTop (mkF m 19 #[.val (.ref a), .val (.long tt), .second, .val (.long (own_f4 tt (86400 : Int64))), .second, .unset, .unset, .unset] [(.int (2 : Int32))]))
    refine Go.s (fun kz => XS.istore X3.here hx rfl (hb hby own_d3_19) rfl (l' := #[.val (.ref a), .val (.long tt), .second, .val (.long (own_f4 tt (86400 : Int64))), .second, .val (.int (2 : Int32)), .unset, .unset]) rfl kz) ?_
    show Go p.tables e below P (T3.setTop (mkF m 21 #[.val (.ref a), .val (.long tt), .second, .val (.long (own_f4 tt (86400 : Int64))), .second, .val (.int (2 : Int32)), .unset, .unset] []))
    refine Go.s (fun kz => XS.iload X3.here hx rfl (hb hby own_d3_21) rfl kz) ?_
    show Go p.tables e below P (T3.setTop (mkF m 23 #[.val (.ref a), .val (.long tt), .second, .val (.long (own_f4 tt (86400 : Int64))), .second, .val (.int (2 : Int32)), .unset, .unset] [(.int (2 : Int32))]))
    refine Go.s (fun kz => XS.aloadN X3.here hx rfl (hb hby own_d3_23) rfl rfl kz) ?_
    show Go p.tables e below P (T3.setTop (mkF m 24 #[.val (.ref a), .val (.long tt), .second, .val (.long (own_f4 tt (86400 : Int64))), .second, .val (.int (2 : Int32)), .unset, .unset] [(.ref a), (.int (2 : Int32))]))
    obtain ⟨T12, X12, e12, st12⟩ := getF X3 hx hZ hown (host := "") (Or.inl (hw _ (List.mem_of_getElem? (i := 12) rfl))) Via.refl e3 F_s (g := (mkF m 24 #[.val (.ref a), .val (.long tt), .second, .val (.long (own_f4 tt (86400 : Int64))), .second, .val (.int (2 : Int32)), .unset, .unset] [(.ref a), (.int (2 : Int32))])) rfl rfl (hb hby own_d3_24)
    refine Go.s (fun {t} => st12 t) ?_
    show Go p.tables e below P (T12.setTop (mkF m 27 #[.val (.ref a), .val (.long tt), .second, .val (.long (own_f4 tt (86400 : Int64))), .second, .val (.int (2 : Int32)), .unset, .unset] [(.ref b), (.int (2 : Int32))]))
    obtain ⟨cl13, Ar13, q13, Sz13, Ng13, Ha13, Ft13⟩ := id V_b
    refine Go.s (fun {t} kz => X12.arraylength hx (by rw [e12]; exact Ar13.1) (State.isArrayOf_alike hZ.alike Ar13.2.1) (g := (mkF m 27 #[.val (.ref a), .val (.long tt), .second, .val (.long (own_f4 tt (86400 : Int64))), .second, .val (.int (2 : Int32)), .unset, .unset] [(.ref b), (.int (2 : Int32))])) rfl rfl (hb hby own_d3_27) _ kz) ?_
    rw [len_of Sz13 Ng13]
    show Go p.tables e below P (T12.setTop (mkF m 28 #[.val (.ref a), .val (.long tt), .second, .val (.long (own_f4 tt (86400 : Int64))), .second, .val (.int (2 : Int32)), .unset, .unset] [(.int (3 : Int32)), (.int (2 : Int32))]))
    refine Go.s (fun kz => XS.icmpNo X12.here hx rfl (hb hby own_d3_28) rfl (XT.ii_ge_f (by decide)) kz) ?_
    show Go p.tables e below P (T12.setTop (mkF m 31 #[.val (.ref a), .val (.long tt), .second, .val (.long (own_f4 tt (86400 : Int64))), .second, .val (.int (2 : Int32)), .unset, .unset] []))
    refine Go.s (fun kz => XT.lloadN X12.here hx rfl (hb hby own_d3_31) rfl kz) ?_
    show Go p.tables e below P (T12.setTop (mkF m 32 #[.val (.ref a), .val (.long tt), .second, .val (.long (own_f4 tt (86400 : Int64))), .second, .val (.int (2 : Int32)), .unset, .unset] [(.long (own_f4 tt (86400 : Int64)))]))
    refine Go.s (fun kz => X12.ldc2J hx hown (mvT hZ (hw _ (List.mem_of_getElem? (i := 19) rfl))) rfl (hb hby own_d3_32) kz) ?_
    show Go p.tables e below P (T12.setTop (mkF m 35 #[.val (.ref a), .val (.long tt), .second, .val (.long (own_f4 tt (86400 : Int64))), .second, .val (.int (2 : Int32)), .unset, .unset] [(.long (86400 : Int64)), (.long (own_f4 tt (86400 : Int64)))]))
    refine Go.s (fun kz => XT.lmul X12.here hx rfl (hb hby own_d3_35) rfl kz) ?_
    show Go p.tables e below P (T12.setTop (mkF m 36 #[.val (.ref a), .val (.long tt), .second, .val (.long (own_f4 tt (86400 : Int64))), .second, .val (.int (2 : Int32)), .unset, .unset] [(.long ((own_f4 tt (86400 : Int64)) * (86400 : Int64)))]))
    refine Go.s (fun kz => XS.aloadN X12.here hx rfl (hb hby own_d3_36) rfl rfl kz) ?_
    show Go p.tables e below P (T12.setTop (mkF m 37 #[.val (.ref a), .val (.long tt), .second, .val (.long (own_f4 tt (86400 : Int64))), .second, .val (.int (2 : Int32)), .unset, .unset] [(.ref a), (.long ((own_f4 tt (86400 : Int64)) * (86400 : Int64)))]))
    obtain ⟨T14, X14, e14, st14⟩ := getF X12 hx hZ hown (host := "") (Or.inl (hw _ (List.mem_of_getElem? (i := 12) rfl))) Via.refl e12 F_s (g := (mkF m 37 #[.val (.ref a), .val (.long tt), .second, .val (.long (own_f4 tt (86400 : Int64))), .second, .val (.int (2 : Int32)), .unset, .unset] [(.ref a), (.long ((own_f4 tt (86400 : Int64)) * (86400 : Int64)))])) rfl rfl (hb hby own_d3_37)
    refine Go.s (fun {t} => st14 t) ?_
    show Go p.tables e below P (T14.setTop (mkF m 40 #[.val (.ref a), .val (.long tt), .second, .val (.long (own_f4 tt (86400 : Int64))), .second, .val (.int (2 : Int32)), .unset, .unset] [(.ref b), (.long ((own_f4 tt (86400 : Int64)) * (86400 : Int64)))]))
    refine Go.s (fun kz => XS.iload X14.here hx rfl (hb hby own_d3_40) rfl kz) ?_
    show Go p.tables e below P (T14.setTop (mkF m 42 #[.val (.ref a), .val (.long tt), .second, .val (.long (own_f4 tt (86400 : Int64))), .second, .val (.int (2 : Int32)), .unset, .unset] [(.int (2 : Int32)), (.ref b), (.long ((own_f4 tt (86400 : Int64)) * (86400 : Int64)))]))
    obtain ⟨cl15, Ar15, q15, Sz15, Ng15, Ha15, Ft15⟩ := id V_b
    have hin15 := inb_of (j := (2 : Int32)) Sz15 ⟨by decide, by decide⟩
    have hat15 := Has.at Ha15 hin15 (v := (.int s2)) rfl
    refine Go.s (fun {t} kz => X14.iaload hx (j := (2 : Int32)) (v := (.int s2)) (by rw [e14]; exact Ar15.1) (State.isArrayOf_alike hZ.alike Ar15.2.1) Ar15.2.2 hin15 hat15 (g := (mkF m 42 #[.val (.ref a), .val (.long tt), .second, .val (.long (own_f4 tt (86400 : Int64))), .second, .val (.int (2 : Int32)), .unset, .unset] [(.int (2 : Int32)), (.ref b), (.long ((own_f4 tt (86400 : Int64)) * (86400 : Int64)))])) rfl rfl (hb hby own_d3_42) _ kz) ?_
    show Go p.tables e below P (T14.setTop (mkF m 43 #[.val (.ref a), .val (.long tt), .second, .val (.long (own_f4 tt (86400 : Int64))), .second, .val (.int (2 : Int32)), .unset, .unset] [(.int s2), (.long ((own_f4 tt (86400 : Int64)) * (86400 : Int64)))]))
    refine Go.s (fun kz => XT.i2l X14.here hx rfl (hb hby own_d3_43) rfl kz) ?_
    show Go p.tables e below P (T14.setTop (mkF m 44 #[.val (.ref a), .val (.long tt), .second, .val (.long (own_f4 tt (86400 : Int64))), .second, .val (.int (2 : Int32)), .unset, .unset] [(.long s2.toInt64), (.long ((own_f4 tt (86400 : Int64)) * (86400 : Int64)))]))
    refine Go.s (fun kz => XT.ladd X14.here hx rfl (hb hby own_d3_44) rfl kz) ?_
    show Go p.tables e below P (T14.setTop (mkF m 45 #[.val (.ref a), .val (.long tt), .second, .val (.long (own_f4 tt (86400 : Int64))), .second, .val (.int (2 : Int32)), .unset, .unset] [(.long (((own_f4 tt (86400 : Int64)) * (86400 : Int64)) + s2.toInt64))]))
    refine Go.s (fun kz => XT.lstore X14.here hx rfl (hb hby own_d3_45) rfl (l' := #[.val (.ref a), .val (.long tt), .second, .val (.long (own_f4 tt (86400 : Int64))), .second, .val (.int (2 : Int32)), .val (.long (((own_f4 tt (86400 : Int64)) * (86400 : Int64)) + s2.toInt64)), .second]) rfl kz) ?_
    show Go p.tables e below P (T14.setTop (mkF m 47 #[.val (.ref a), .val (.long tt), .second, .val (.long (own_f4 tt (86400 : Int64))), .second, .val (.int (2 : Int32)), .val (.long (((own_f4 tt (86400 : Int64)) * (86400 : Int64)) + s2.toInt64)), .second] []))
    refine Go.s (fun kz => XS.goto X14.here hx rfl (pc0 := 47) (pc' := 67) rfl (hb hby own_d3_47) (by decide) (by decide) kz) ?_
    show Go p.tables e below P (T14.setTop (mkF m 67 #[.val (.ref a), .val (.long tt), .second, .val (.long (own_f4 tt (86400 : Int64))), .second, .val (.int (2 : Int32)), .val (.long (((own_f4 tt (86400 : Int64)) * (86400 : Int64)) + s2.toInt64)), .second] []))
    refine Go.s (fun kz => XT.lload X14.here hx rfl (hb hby own_d3_67) rfl kz) ?_
    show Go p.tables e below P (T14.setTop (mkF m 69 #[.val (.ref a), .val (.long tt), .second, .val (.long (own_f4 tt (86400 : Int64))), .second, .val (.int (2 : Int32)), .val (.long (((own_f4 tt (86400 : Int64)) * (86400 : Int64)) + s2.toInt64)), .second] [(.long (((own_f4 tt (86400 : Int64)) * (86400 : Int64)) + s2.toInt64))]))
    exact Go.retJ X14 hx hlk hret (hb hby own_d3_69) (fun U hU hF => hP U _ _ (by rw [hU, e14]; exact ⟨(Or.inr (Or.inr (Or.inl (⟨rfl, k0, k1, k2⟩)))), N3, rfl⟩) ⟨hF.1, hF.2.1, hF.2.2.mono (by decide) (by decide)⟩)
  · skip
    refine Go.s (fun {t} => st3) ?_
    show Go p.tables e below P (T3.setTop (mkF m 19 #[.val (.ref a), .val (.long tt), .second, .val (.long (own_f4 tt (86400 : Int64))), .second, .unset, .unset, .unset] [(.int (1 : Int32))]))
    refine Go.s (fun kz => XS.istore X3.here hx rfl (hb hby own_d3_19) rfl (l' := #[.val (.ref a), .val (.long tt), .second, .val (.long (own_f4 tt (86400 : Int64))), .second, .val (.int (1 : Int32)), .unset, .unset]) rfl kz) ?_
    show Go p.tables e below P (T3.setTop (mkF m 21 #[.val (.ref a), .val (.long tt), .second, .val (.long (own_f4 tt (86400 : Int64))), .second, .val (.int (1 : Int32)), .unset, .unset] []))
    refine Go.s (fun kz => XS.iload X3.here hx rfl (hb hby own_d3_21) rfl kz) ?_
    show Go p.tables e below P (T3.setTop (mkF m 23 #[.val (.ref a), .val (.long tt), .second, .val (.long (own_f4 tt (86400 : Int64))), .second, .val (.int (1 : Int32)), .unset, .unset] [(.int (1 : Int32))]))
    refine Go.s (fun kz => XS.aloadN X3.here hx rfl (hb hby own_d3_23) rfl rfl kz) ?_
    show Go p.tables e below P (T3.setTop (mkF m 24 #[.val (.ref a), .val (.long tt), .second, .val (.long (own_f4 tt (86400 : Int64))), .second, .val (.int (1 : Int32)), .unset, .unset] [(.ref a), (.int (1 : Int32))]))
    obtain ⟨T16, X16, e16, st16⟩ := getF X3 hx hZ hown (host := "") (Or.inl (hw _ (List.mem_of_getElem? (i := 12) rfl))) Via.refl e3 F_s (g := (mkF m 24 #[.val (.ref a), .val (.long tt), .second, .val (.long (own_f4 tt (86400 : Int64))), .second, .val (.int (1 : Int32)), .unset, .unset] [(.ref a), (.int (1 : Int32))])) rfl rfl (hb hby own_d3_24)
    refine Go.s (fun {t} => st16 t) ?_
    show Go p.tables e below P (T16.setTop (mkF m 27 #[.val (.ref a), .val (.long tt), .second, .val (.long (own_f4 tt (86400 : Int64))), .second, .val (.int (1 : Int32)), .unset, .unset] [(.ref b), (.int (1 : Int32))]))
    obtain ⟨cl17, Ar17, q17, Sz17, Ng17, Ha17, Ft17⟩ := id V_b
    refine Go.s (fun {t} kz => X16.arraylength hx (by rw [e16]; exact Ar17.1) (State.isArrayOf_alike hZ.alike Ar17.2.1) (g := (mkF m 27 #[.val (.ref a), .val (.long tt), .second, .val (.long (own_f4 tt (86400 : Int64))), .second, .val (.int (1 : Int32)), .unset, .unset] [(.ref b), (.int (1 : Int32))])) rfl rfl (hb hby own_d3_27) _ kz) ?_
    rw [len_of Sz17 Ng17]
    show Go p.tables e below P (T16.setTop (mkF m 28 #[.val (.ref a), .val (.long tt), .second, .val (.long (own_f4 tt (86400 : Int64))), .second, .val (.int (1 : Int32)), .unset, .unset] [(.int (3 : Int32)), (.int (1 : Int32))]))
    refine Go.s (fun kz => XS.icmpNo X16.here hx rfl (hb hby own_d3_28) rfl (XT.ii_ge_f (by decide)) kz) ?_
    show Go p.tables e below P (T16.setTop (mkF m 31 #[.val (.ref a), .val (.long tt), .second, .val (.long (own_f4 tt (86400 : Int64))), .second, .val (.int (1 : Int32)), .unset, .unset] []))
    refine Go.s (fun kz => XT.lloadN X16.here hx rfl (hb hby own_d3_31) rfl kz) ?_
    show Go p.tables e below P (T16.setTop (mkF m 32 #[.val (.ref a), .val (.long tt), .second, .val (.long (own_f4 tt (86400 : Int64))), .second, .val (.int (1 : Int32)), .unset, .unset] [(.long (own_f4 tt (86400 : Int64)))]))
    refine Go.s (fun kz => X16.ldc2J hx hown (mvT hZ (hw _ (List.mem_of_getElem? (i := 19) rfl))) rfl (hb hby own_d3_32) kz) ?_
    show Go p.tables e below P (T16.setTop (mkF m 35 #[.val (.ref a), .val (.long tt), .second, .val (.long (own_f4 tt (86400 : Int64))), .second, .val (.int (1 : Int32)), .unset, .unset] [(.long (86400 : Int64)), (.long (own_f4 tt (86400 : Int64)))]))
    refine Go.s (fun kz => XT.lmul X16.here hx rfl (hb hby own_d3_35) rfl kz) ?_
    show Go p.tables e below P (T16.setTop (mkF m 36 #[.val (.ref a), .val (.long tt), .second, .val (.long (own_f4 tt (86400 : Int64))), .second, .val (.int (1 : Int32)), .unset, .unset] [(.long ((own_f4 tt (86400 : Int64)) * (86400 : Int64)))]))
    refine Go.s (fun kz => XS.aloadN X16.here hx rfl (hb hby own_d3_36) rfl rfl kz) ?_
    show Go p.tables e below P (T16.setTop (mkF m 37 #[.val (.ref a), .val (.long tt), .second, .val (.long (own_f4 tt (86400 : Int64))), .second, .val (.int (1 : Int32)), .unset, .unset] [(.ref a), (.long ((own_f4 tt (86400 : Int64)) * (86400 : Int64)))]))
    obtain ⟨T18, X18, e18, st18⟩ := getF X16 hx hZ hown (host := "") (Or.inl (hw _ (List.mem_of_getElem? (i := 12) rfl))) Via.refl e16 F_s (g := (mkF m 37 #[.val (.ref a), .val (.long tt), .second, .val (.long (own_f4 tt (86400 : Int64))), .second, .val (.int (1 : Int32)), .unset, .unset] [(.ref a), (.long ((own_f4 tt (86400 : Int64)) * (86400 : Int64)))])) rfl rfl (hb hby own_d3_37)
    refine Go.s (fun {t} => st18 t) ?_
    show Go p.tables e below P (T18.setTop (mkF m 40 #[.val (.ref a), .val (.long tt), .second, .val (.long (own_f4 tt (86400 : Int64))), .second, .val (.int (1 : Int32)), .unset, .unset] [(.ref b), (.long ((own_f4 tt (86400 : Int64)) * (86400 : Int64)))]))
    refine Go.s (fun kz => XS.iload X18.here hx rfl (hb hby own_d3_40) rfl kz) ?_
    show Go p.tables e below P (T18.setTop (mkF m 42 #[.val (.ref a), .val (.long tt), .second, .val (.long (own_f4 tt (86400 : Int64))), .second, .val (.int (1 : Int32)), .unset, .unset] [(.int (1 : Int32)), (.ref b), (.long ((own_f4 tt (86400 : Int64)) * (86400 : Int64)))]))
    obtain ⟨cl19, Ar19, q19, Sz19, Ng19, Ha19, Ft19⟩ := id V_b
    have hin19 := inb_of (j := (1 : Int32)) Sz19 ⟨by decide, by decide⟩
    have hat19 := Has.at Ha19 hin19 (v := (.int s1)) rfl
    refine Go.s (fun {t} kz => X18.iaload hx (j := (1 : Int32)) (v := (.int s1)) (by rw [e18]; exact Ar19.1) (State.isArrayOf_alike hZ.alike Ar19.2.1) Ar19.2.2 hin19 hat19 (g := (mkF m 42 #[.val (.ref a), .val (.long tt), .second, .val (.long (own_f4 tt (86400 : Int64))), .second, .val (.int (1 : Int32)), .unset, .unset] [(.int (1 : Int32)), (.ref b), (.long ((own_f4 tt (86400 : Int64)) * (86400 : Int64)))])) rfl rfl (hb hby own_d3_42) _ kz) ?_
    show Go p.tables e below P (T18.setTop (mkF m 43 #[.val (.ref a), .val (.long tt), .second, .val (.long (own_f4 tt (86400 : Int64))), .second, .val (.int (1 : Int32)), .unset, .unset] [(.int s1), (.long ((own_f4 tt (86400 : Int64)) * (86400 : Int64)))]))
    refine Go.s (fun kz => XT.i2l X18.here hx rfl (hb hby own_d3_43) rfl kz) ?_
    show Go p.tables e below P (T18.setTop (mkF m 44 #[.val (.ref a), .val (.long tt), .second, .val (.long (own_f4 tt (86400 : Int64))), .second, .val (.int (1 : Int32)), .unset, .unset] [(.long s1.toInt64), (.long ((own_f4 tt (86400 : Int64)) * (86400 : Int64)))]))
    refine Go.s (fun kz => XT.ladd X18.here hx rfl (hb hby own_d3_44) rfl kz) ?_
    show Go p.tables e below P (T18.setTop (mkF m 45 #[.val (.ref a), .val (.long tt), .second, .val (.long (own_f4 tt (86400 : Int64))), .second, .val (.int (1 : Int32)), .unset, .unset] [(.long (((own_f4 tt (86400 : Int64)) * (86400 : Int64)) + s1.toInt64))]))
    refine Go.s (fun kz => XT.lstore X18.here hx rfl (hb hby own_d3_45) rfl (l' := #[.val (.ref a), .val (.long tt), .second, .val (.long (own_f4 tt (86400 : Int64))), .second, .val (.int (1 : Int32)), .val (.long (((own_f4 tt (86400 : Int64)) * (86400 : Int64)) + s1.toInt64)), .second]) rfl kz) ?_
    show Go p.tables e below P (T18.setTop (mkF m 47 #[.val (.ref a), .val (.long tt), .second, .val (.long (own_f4 tt (86400 : Int64))), .second, .val (.int (1 : Int32)), .val (.long (((own_f4 tt (86400 : Int64)) * (86400 : Int64)) + s1.toInt64)), .second] []))
    refine Go.s (fun kz => XS.goto X18.here hx rfl (pc0 := 47) (pc' := 67) rfl (hb hby own_d3_47) (by decide) (by decide) kz) ?_
    show Go p.tables e below P (T18.setTop (mkF m 67 #[.val (.ref a), .val (.long tt), .second, .val (.long (own_f4 tt (86400 : Int64))), .second, .val (.int (1 : Int32)), .val (.long (((own_f4 tt (86400 : Int64)) * (86400 : Int64)) + s1.toInt64)), .second] []))
    refine Go.s (fun kz => XT.lload X18.here hx rfl (hb hby own_d3_67) rfl kz) ?_
    show Go p.tables e below P (T18.setTop (mkF m 69 #[.val (.ref a), .val (.long tt), .second, .val (.long (own_f4 tt (86400 : Int64))), .second, .val (.int (1 : Int32)), .val (.long (((own_f4 tt (86400 : Int64)) * (86400 : Int64)) + s1.toInt64)), .second] [(.long (((own_f4 tt (86400 : Int64)) * (86400 : Int64)) + s1.toInt64))]))
    exact Go.retJ X18 hx hlk hret (hb hby own_d3_69) (fun U hU hF => hP U _ _ (by rw [hU, e18]; exact ⟨(Or.inr (Or.inr (Or.inr (Or.inl (⟨rfl, k0, k1, k2⟩))))), N3, rfl⟩) ⟨hF.1, hF.2.1, hF.2.2.mono (by decide) (by decide)⟩)
  · skip
    refine Go.s (fun {t} => st3) ?_
    show Go p.tables e below P (T3.setTop (mkF m 19 #[.val (.ref a), .val (.long tt), .second, .val (.long (own_f4 tt (86400 : Int64))), .second, .unset, .unset, .unset] [(.int (0 : Int32))]))
    refine Go.s (fun kz => XS.istore X3.here hx rfl (hb hby own_d3_19) rfl (l' := #[.val (.ref a), .val (.long tt), .second, .val (.long (own_f4 tt (86400 : Int64))), .second, .val (.int (0 : Int32)), .unset, .unset]) rfl kz) ?_
    show Go p.tables e below P (T3.setTop (mkF m 21 #[.val (.ref a), .val (.long tt), .second, .val (.long (own_f4 tt (86400 : Int64))), .second, .val (.int (0 : Int32)), .unset, .unset] []))
    refine Go.s (fun kz => XS.iload X3.here hx rfl (hb hby own_d3_21) rfl kz) ?_
    show Go p.tables e below P (T3.setTop (mkF m 23 #[.val (.ref a), .val (.long tt), .second, .val (.long (own_f4 tt (86400 : Int64))), .second, .val (.int (0 : Int32)), .unset, .unset] [(.int (0 : Int32))]))
    refine Go.s (fun kz => XS.aloadN X3.here hx rfl (hb hby own_d3_23) rfl rfl kz) ?_
    show Go p.tables e below P (T3.setTop (mkF m 24 #[.val (.ref a), .val (.long tt), .second, .val (.long (own_f4 tt (86400 : Int64))), .second, .val (.int (0 : Int32)), .unset, .unset] [(.ref a), (.int (0 : Int32))]))
    obtain ⟨T20, X20, e20, st20⟩ := getF X3 hx hZ hown (host := "") (Or.inl (hw _ (List.mem_of_getElem? (i := 12) rfl))) Via.refl e3 F_s (g := (mkF m 24 #[.val (.ref a), .val (.long tt), .second, .val (.long (own_f4 tt (86400 : Int64))), .second, .val (.int (0 : Int32)), .unset, .unset] [(.ref a), (.int (0 : Int32))])) rfl rfl (hb hby own_d3_24)
    refine Go.s (fun {t} => st20 t) ?_
    show Go p.tables e below P (T20.setTop (mkF m 27 #[.val (.ref a), .val (.long tt), .second, .val (.long (own_f4 tt (86400 : Int64))), .second, .val (.int (0 : Int32)), .unset, .unset] [(.ref b), (.int (0 : Int32))]))
    obtain ⟨cl21, Ar21, q21, Sz21, Ng21, Ha21, Ft21⟩ := id V_b
    refine Go.s (fun {t} kz => X20.arraylength hx (by rw [e20]; exact Ar21.1) (State.isArrayOf_alike hZ.alike Ar21.2.1) (g := (mkF m 27 #[.val (.ref a), .val (.long tt), .second, .val (.long (own_f4 tt (86400 : Int64))), .second, .val (.int (0 : Int32)), .unset, .unset] [(.ref b), (.int (0 : Int32))])) rfl rfl (hb hby own_d3_27) _ kz) ?_
    rw [len_of Sz21 Ng21]
    show Go p.tables e below P (T20.setTop (mkF m 28 #[.val (.ref a), .val (.long tt), .second, .val (.long (own_f4 tt (86400 : Int64))), .second, .val (.int (0 : Int32)), .unset, .unset] [(.int (3 : Int32)), (.int (0 : Int32))]))
    refine Go.s (fun kz => XS.icmpNo X20.here hx rfl (hb hby own_d3_28) rfl (XT.ii_ge_f (by decide)) kz) ?_
    show Go p.tables e below P (T20.setTop (mkF m 31 #[.val (.ref a), .val (.long tt), .second, .val (.long (own_f4 tt (86400 : Int64))), .second, .val (.int (0 : Int32)), .unset, .unset] []))
    refine Go.s (fun kz => XT.lloadN X20.here hx rfl (hb hby own_d3_31) rfl kz) ?_
    show Go p.tables e below P (T20.setTop (mkF m 32 #[.val (.ref a), .val (.long tt), .second, .val (.long (own_f4 tt (86400 : Int64))), .second, .val (.int (0 : Int32)), .unset, .unset] [(.long (own_f4 tt (86400 : Int64)))]))
    refine Go.s (fun kz => X20.ldc2J hx hown (mvT hZ (hw _ (List.mem_of_getElem? (i := 19) rfl))) rfl (hb hby own_d3_32) kz) ?_
    show Go p.tables e below P (T20.setTop (mkF m 35 #[.val (.ref a), .val (.long tt), .second, .val (.long (own_f4 tt (86400 : Int64))), .second, .val (.int (0 : Int32)), .unset, .unset] [(.long (86400 : Int64)), (.long (own_f4 tt (86400 : Int64)))]))
    refine Go.s (fun kz => XT.lmul X20.here hx rfl (hb hby own_d3_35) rfl kz) ?_
    show Go p.tables e below P (T20.setTop (mkF m 36 #[.val (.ref a), .val (.long tt), .second, .val (.long (own_f4 tt (86400 : Int64))), .second, .val (.int (0 : Int32)), .unset, .unset] [(.long ((own_f4 tt (86400 : Int64)) * (86400 : Int64)))]))
    refine Go.s (fun kz => XS.aloadN X20.here hx rfl (hb hby own_d3_36) rfl rfl kz) ?_
    show Go p.tables e below P (T20.setTop (mkF m 37 #[.val (.ref a), .val (.long tt), .second, .val (.long (own_f4 tt (86400 : Int64))), .second, .val (.int (0 : Int32)), .unset, .unset] [(.ref a), (.long ((own_f4 tt (86400 : Int64)) * (86400 : Int64)))]))
    obtain ⟨T22, X22, e22, st22⟩ := getF X20 hx hZ hown (host := "") (Or.inl (hw _ (List.mem_of_getElem? (i := 12) rfl))) Via.refl e20 F_s (g := (mkF m 37 #[.val (.ref a), .val (.long tt), .second, .val (.long (own_f4 tt (86400 : Int64))), .second, .val (.int (0 : Int32)), .unset, .unset] [(.ref a), (.long ((own_f4 tt (86400 : Int64)) * (86400 : Int64)))])) rfl rfl (hb hby own_d3_37)
    refine Go.s (fun {t} => st22 t) ?_
    show Go p.tables e below P (T22.setTop (mkF m 40 #[.val (.ref a), .val (.long tt), .second, .val (.long (own_f4 tt (86400 : Int64))), .second, .val (.int (0 : Int32)), .unset, .unset] [(.ref b), (.long ((own_f4 tt (86400 : Int64)) * (86400 : Int64)))]))
    refine Go.s (fun kz => XS.iload X22.here hx rfl (hb hby own_d3_40) rfl kz) ?_
    show Go p.tables e below P (T22.setTop (mkF m 42 #[.val (.ref a), .val (.long tt), .second, .val (.long (own_f4 tt (86400 : Int64))), .second, .val (.int (0 : Int32)), .unset, .unset] [(.int (0 : Int32)), (.ref b), (.long ((own_f4 tt (86400 : Int64)) * (86400 : Int64)))]))
    obtain ⟨cl23, Ar23, q23, Sz23, Ng23, Ha23, Ft23⟩ := id V_b
    have hin23 := inb_of (j := (0 : Int32)) Sz23 ⟨by decide, by decide⟩
    have hat23 := Has.at Ha23 hin23 (v := (.int s0)) rfl
    refine Go.s (fun {t} kz => X22.iaload hx (j := (0 : Int32)) (v := (.int s0)) (by rw [e22]; exact Ar23.1) (State.isArrayOf_alike hZ.alike Ar23.2.1) Ar23.2.2 hin23 hat23 (g := (mkF m 42 #[.val (.ref a), .val (.long tt), .second, .val (.long (own_f4 tt (86400 : Int64))), .second, .val (.int (0 : Int32)), .unset, .unset] [(.int (0 : Int32)), (.ref b), (.long ((own_f4 tt (86400 : Int64)) * (86400 : Int64)))])) rfl rfl (hb hby own_d3_42) _ kz) ?_
    show Go p.tables e below P (T22.setTop (mkF m 43 #[.val (.ref a), .val (.long tt), .second, .val (.long (own_f4 tt (86400 : Int64))), .second, .val (.int (0 : Int32)), .unset, .unset] [(.int s0), (.long ((own_f4 tt (86400 : Int64)) * (86400 : Int64)))]))
    refine Go.s (fun kz => XT.i2l X22.here hx rfl (hb hby own_d3_43) rfl kz) ?_
    show Go p.tables e below P (T22.setTop (mkF m 44 #[.val (.ref a), .val (.long tt), .second, .val (.long (own_f4 tt (86400 : Int64))), .second, .val (.int (0 : Int32)), .unset, .unset] [(.long s0.toInt64), (.long ((own_f4 tt (86400 : Int64)) * (86400 : Int64)))]))
    refine Go.s (fun kz => XT.ladd X22.here hx rfl (hb hby own_d3_44) rfl kz) ?_
    show Go p.tables e below P (T22.setTop (mkF m 45 #[.val (.ref a), .val (.long tt), .second, .val (.long (own_f4 tt (86400 : Int64))), .second, .val (.int (0 : Int32)), .unset, .unset] [(.long (((own_f4 tt (86400 : Int64)) * (86400 : Int64)) + s0.toInt64))]))
    refine Go.s (fun kz => XT.lstore X22.here hx rfl (hb hby own_d3_45) rfl (l' := #[.val (.ref a), .val (.long tt), .second, .val (.long (own_f4 tt (86400 : Int64))), .second, .val (.int (0 : Int32)), .val (.long (((own_f4 tt (86400 : Int64)) * (86400 : Int64)) + s0.toInt64)), .second]) rfl kz) ?_
    show Go p.tables e below P (T22.setTop (mkF m 47 #[.val (.ref a), .val (.long tt), .second, .val (.long (own_f4 tt (86400 : Int64))), .second, .val (.int (0 : Int32)), .val (.long (((own_f4 tt (86400 : Int64)) * (86400 : Int64)) + s0.toInt64)), .second] []))
    refine Go.s (fun kz => XS.goto X22.here hx rfl (pc0 := 47) (pc' := 67) rfl (hb hby own_d3_47) (by decide) (by decide) kz) ?_
    show Go p.tables e below P (T22.setTop (mkF m 67 #[.val (.ref a), .val (.long tt), .second, .val (.long (own_f4 tt (86400 : Int64))), .second, .val (.int (0 : Int32)), .val (.long (((own_f4 tt (86400 : Int64)) * (86400 : Int64)) + s0.toInt64)), .second] []))
    refine Go.s (fun kz => XT.lload X22.here hx rfl (hb hby own_d3_67) rfl kz) ?_
    show Go p.tables e below P (T22.setTop (mkF m 69 #[.val (.ref a), .val (.long tt), .second, .val (.long (own_f4 tt (86400 : Int64))), .second, .val (.int (0 : Int32)), .val (.long (((own_f4 tt (86400 : Int64)) * (86400 : Int64)) + s0.toInt64)), .second] [(.long (((own_f4 tt (86400 : Int64)) * (86400 : Int64)) + s0.toInt64))]))
    exact Go.retJ X22 hx hlk hret (hb hby own_d3_69) (fun U hU hF => hP U _ _ (by rw [hU, e22]; exact ⟨(Or.inr (Or.inr (Or.inr (Or.inr (Or.inl (⟨rfl, k0, k1, k2, k3⟩)))))), N3, rfl⟩) ⟨hF.1, hF.2.1, hF.2.2.mono (by decide) (by decide)⟩)
  · skip
    refine Go.s (fun {t} => st3) ?_
    show Go p.tables e below P (T3.setTop (mkF m 19 #[.val (.ref a), .val (.long tt), .second, .val (.long (own_f4 tt (86400 : Int64))), .second, .unset, .unset, .unset] [(.int (0 : Int32))]))
    refine Go.s (fun kz => XS.istore X3.here hx rfl (hb hby own_d3_19) rfl (l' := #[.val (.ref a), .val (.long tt), .second, .val (.long (own_f4 tt (86400 : Int64))), .second, .val (.int (0 : Int32)), .unset, .unset]) rfl kz) ?_
    show Go p.tables e below P (T3.setTop (mkF m 21 #[.val (.ref a), .val (.long tt), .second, .val (.long (own_f4 tt (86400 : Int64))), .second, .val (.int (0 : Int32)), .unset, .unset] []))
    refine Go.s (fun kz => XS.iload X3.here hx rfl (hb hby own_d3_21) rfl kz) ?_
    show Go p.tables e below P (T3.setTop (mkF m 23 #[.val (.ref a), .val (.long tt), .second, .val (.long (own_f4 tt (86400 : Int64))), .second, .val (.int (0 : Int32)), .unset, .unset] [(.int (0 : Int32))]))
    refine Go.s (fun kz => XS.aloadN X3.here hx rfl (hb hby own_d3_23) rfl rfl kz) ?_
    show Go p.tables e below P (T3.setTop (mkF m 24 #[.val (.ref a), .val (.long tt), .second, .val (.long (own_f4 tt (86400 : Int64))), .second, .val (.int (0 : Int32)), .unset, .unset] [(.ref a), (.int (0 : Int32))]))
    obtain ⟨T24, X24, e24, st24⟩ := getF X3 hx hZ hown (host := "") (Or.inl (hw _ (List.mem_of_getElem? (i := 12) rfl))) Via.refl e3 F_s (g := (mkF m 24 #[.val (.ref a), .val (.long tt), .second, .val (.long (own_f4 tt (86400 : Int64))), .second, .val (.int (0 : Int32)), .unset, .unset] [(.ref a), (.int (0 : Int32))])) rfl rfl (hb hby own_d3_24)
    refine Go.s (fun {t} => st24 t) ?_
    show Go p.tables e below P (T24.setTop (mkF m 27 #[.val (.ref a), .val (.long tt), .second, .val (.long (own_f4 tt (86400 : Int64))), .second, .val (.int (0 : Int32)), .unset, .unset] [(.ref b), (.int (0 : Int32))]))
    obtain ⟨cl25, Ar25, q25, Sz25, Ng25, Ha25, Ft25⟩ := id V_b
    refine Go.s (fun {t} kz => X24.arraylength hx (by rw [e24]; exact Ar25.1) (State.isArrayOf_alike hZ.alike Ar25.2.1) (g := (mkF m 27 #[.val (.ref a), .val (.long tt), .second, .val (.long (own_f4 tt (86400 : Int64))), .second, .val (.int (0 : Int32)), .unset, .unset] [(.ref b), (.int (0 : Int32))])) rfl rfl (hb hby own_d3_27) _ kz) ?_
    rw [len_of Sz25 Ng25]
    show Go p.tables e below P (T24.setTop (mkF m 28 #[.val (.ref a), .val (.long tt), .second, .val (.long (own_f4 tt (86400 : Int64))), .second, .val (.int (0 : Int32)), .unset, .unset] [(.int (3 : Int32)), (.int (0 : Int32))]))
    refine Go.s (fun kz => XS.icmpNo X24.here hx rfl (hb hby own_d3_28) rfl (XT.ii_ge_f (by decide)) kz) ?_
    show Go p.tables e below P (T24.setTop (mkF m 31 #[.val (.ref a), .val (.long tt), .second, .val (.long (own_f4 tt (86400 : Int64))), .second, .val (.int (0 : Int32)), .unset, .unset] []))
    refine Go.s (fun kz => XT.lloadN X24.here hx rfl (hb hby own_d3_31) rfl kz) ?_
    show Go p.tables e below P (T24.setTop (mkF m 32 #[.val (.ref a), .val (.long tt), .second, .val (.long (own_f4 tt (86400 : Int64))), .second, .val (.int (0 : Int32)), .unset, .unset] [(.long (own_f4 tt (86400 : Int64)))]))
    refine Go.s (fun kz => X24.ldc2J hx hown (mvT hZ (hw _ (List.mem_of_getElem? (i := 19) rfl))) rfl (hb hby own_d3_32) kz) ?_
    show Go p.tables e below P (T24.setTop (mkF m 35 #[.val (.ref a), .val (.long tt), .second, .val (.long (own_f4 tt (86400 : Int64))), .second, .val (.int (0 : Int32)), .unset, .unset] [(.long (86400 : Int64)), (.long (own_f4 tt (86400 : Int64)))]))
    refine Go.s (fun kz => XT.lmul X24.here hx rfl (hb hby own_d3_35) rfl kz) ?_
    show Go p.tables e below P (T24.setTop (mkF m 36 #[.val (.ref a), .val (.long tt), .second, .val (.long (own_f4 tt (86400 : Int64))), .second, .val (.int (0 : Int32)), .unset, .unset] [(.long ((own_f4 tt (86400 : Int64)) * (86400 : Int64)))]))
    refine Go.s (fun kz => XS.aloadN X24.here hx rfl (hb hby own_d3_36) rfl rfl kz) ?_
    show Go p.tables e below P (T24.setTop (mkF m 37 #[.val (.ref a), .val (.long tt), .second, .val (.long (own_f4 tt (86400 : Int64))), .second, .val (.int (0 : Int32)), .unset, .unset] [(.ref a), (.long ((own_f4 tt (86400 : Int64)) * (86400 : Int64)))]))
    obtain ⟨T26, X26, e26, st26⟩ := getF X24 hx hZ hown (host := "") (Or.inl (hw _ (List.mem_of_getElem? (i := 12) rfl))) Via.refl e24 F_s (g := (mkF m 37 #[.val (.ref a), .val (.long tt), .second, .val (.long (own_f4 tt (86400 : Int64))), .second, .val (.int (0 : Int32)), .unset, .unset] [(.ref a), (.long ((own_f4 tt (86400 : Int64)) * (86400 : Int64)))])) rfl rfl (hb hby own_d3_37)
    refine Go.s (fun {t} => st26 t) ?_
    show Go p.tables e below P (T26.setTop (mkF m 40 #[.val (.ref a), .val (.long tt), .second, .val (.long (own_f4 tt (86400 : Int64))), .second, .val (.int (0 : Int32)), .unset, .unset] [(.ref b), (.long ((own_f4 tt (86400 : Int64)) * (86400 : Int64)))]))
    refine Go.s (fun kz => XS.iload X26.here hx rfl (hb hby own_d3_40) rfl kz) ?_
    show Go p.tables e below P (T26.setTop (mkF m 42 #[.val (.ref a), .val (.long tt), .second, .val (.long (own_f4 tt (86400 : Int64))), .second, .val (.int (0 : Int32)), .unset, .unset] [(.int (0 : Int32)), (.ref b), (.long ((own_f4 tt (86400 : Int64)) * (86400 : Int64)))]))
    obtain ⟨cl27, Ar27, q27, Sz27, Ng27, Ha27, Ft27⟩ := id V_b
    have hin27 := inb_of (j := (0 : Int32)) Sz27 ⟨by decide, by decide⟩
    have hat27 := Has.at Ha27 hin27 (v := (.int s0)) rfl
    refine Go.s (fun {t} kz => X26.iaload hx (j := (0 : Int32)) (v := (.int s0)) (by rw [e26]; exact Ar27.1) (State.isArrayOf_alike hZ.alike Ar27.2.1) Ar27.2.2 hin27 hat27 (g := (mkF m 42 #[.val (.ref a), .val (.long tt), .second, .val (.long (own_f4 tt (86400 : Int64))), .second, .val (.int (0 : Int32)), .unset, .unset] [(.int (0 : Int32)), (.ref b), (.long ((own_f4 tt (86400 : Int64)) * (86400 : Int64)))])) rfl rfl (hb hby own_d3_42) _ kz) ?_
    show Go p.tables e below P (T26.setTop (mkF m 43 #[.val (.ref a), .val (.long tt), .second, .val (.long (own_f4 tt (86400 : Int64))), .second, .val (.int (0 : Int32)), .unset, .unset] [(.int s0), (.long ((own_f4 tt (86400 : Int64)) * (86400 : Int64)))]))
    refine Go.s (fun kz => XT.i2l X26.here hx rfl (hb hby own_d3_43) rfl kz) ?_
    show Go p.tables e below P (T26.setTop (mkF m 44 #[.val (.ref a), .val (.long tt), .second, .val (.long (own_f4 tt (86400 : Int64))), .second, .val (.int (0 : Int32)), .unset, .unset] [(.long s0.toInt64), (.long ((own_f4 tt (86400 : Int64)) * (86400 : Int64)))]))
    refine Go.s (fun kz => XT.ladd X26.here hx rfl (hb hby own_d3_44) rfl kz) ?_
    show Go p.tables e below P (T26.setTop (mkF m 45 #[.val (.ref a), .val (.long tt), .second, .val (.long (own_f4 tt (86400 : Int64))), .second, .val (.int (0 : Int32)), .unset, .unset] [(.long (((own_f4 tt (86400 : Int64)) * (86400 : Int64)) + s0.toInt64))]))
    refine Go.s (fun kz => XT.lstore X26.here hx rfl (hb hby own_d3_45) rfl (l' := #[.val (.ref a), .val (.long tt), .second, .val (.long (own_f4 tt (86400 : Int64))), .second, .val (.int (0 : Int32)), .val (.long (((own_f4 tt (86400 : Int64)) * (86400 : Int64)) + s0.toInt64)), .second]) rfl kz) ?_
    show Go p.tables e below P (T26.setTop (mkF m 47 #[.val (.ref a), .val (.long tt), .second, .val (.long (own_f4 tt (86400 : Int64))), .second, .val (.int (0 : Int32)), .val (.long (((own_f4 tt (86400 : Int64)) * (86400 : Int64)) + s0.toInt64)), .second] []))
    refine Go.s (fun kz => XS.goto X26.here hx rfl (pc0 := 47) (pc' := 67) rfl (hb hby own_d3_47) (by decide) (by decide) kz) ?_
    show Go p.tables e below P (T26.setTop (mkF m 67 #[.val (.ref a), .val (.long tt), .second, .val (.long (own_f4 tt (86400 : Int64))), .second, .val (.int (0 : Int32)), .val (.long (((own_f4 tt (86400 : Int64)) * (86400 : Int64)) + s0.toInt64)), .second] []))
    refine Go.s (fun kz => XT.lload X26.here hx rfl (hb hby own_d3_67) rfl kz) ?_
    show Go p.tables e below P (T26.setTop (mkF m 69 #[.val (.ref a), .val (.long tt), .second, .val (.long (own_f4 tt (86400 : Int64))), .second, .val (.int (0 : Int32)), .val (.long (((own_f4 tt (86400 : Int64)) * (86400 : Int64)) + s0.toInt64)), .second] [(.long (((own_f4 tt (86400 : Int64)) * (86400 : Int64)) + s0.toInt64))]))
    exact Go.retJ X26 hx hlk hret (hb hby own_d3_69) (fun U hU hF => hP U _ _ (by rw [hU, e26]; exact ⟨(Or.inr (Or.inr (Or.inr (Or.inr (Or.inr (Or.inl (⟨rfl, k0, k1, k2, k3⟩))))))), N3, rfl⟩) ⟨hF.1, hF.2.1, hF.2.2.mono (by decide) (by decide)⟩)
  · skip
    refine Go.s (fun {t} => st3) ?_
    show Go p.tables e below P (T3.setTop (mkF m 19 #[.val (.ref a), .val (.long tt), .second, .val (.long (own_f4 tt (86400 : Int64))), .second, .unset, .unset, .unset] [(.int (1 : Int32))]))
    refine Go.s (fun kz => XS.istore X3.here hx rfl (hb hby own_d3_19) rfl (l' := #[.val (.ref a), .val (.long tt), .second, .val (.long (own_f4 tt (86400 : Int64))), .second, .val (.int (1 : Int32)), .unset, .unset]) rfl kz) ?_
    show Go p.tables e below P (T3.setTop (mkF m 21 #[.val (.ref a), .val (.long tt), .second, .val (.long (own_f4 tt (86400 : Int64))), .second, .val (.int (1 : Int32)), .unset, .unset] []))
    refine Go.s (fun kz => XS.iload X3.here hx rfl (hb hby own_d3_21) rfl kz) ?_
    show Go p.tables e below P (T3.setTop (mkF m 23 #[.val (.ref a), .val (.long tt), .second, .val (.long (own_f4 tt (86400 : Int64))), .second, .val (.int (1 : Int32)), .unset, .unset] [(.int (1 : Int32))]))
    refine Go.s (fun kz => XS.aloadN X3.here hx rfl (hb hby own_d3_23) rfl rfl kz) ?_
    show Go p.tables e below P (T3.setTop (mkF m 24 #[.val (.ref a), .val (.long tt), .second, .val (.long (own_f4 tt (86400 : Int64))), .second, .val (.int (1 : Int32)), .unset, .unset] [(.ref a), (.int (1 : Int32))]))
    obtain ⟨T28, X28, e28, st28⟩ := getF X3 hx hZ hown (host := "") (Or.inl (hw _ (List.mem_of_getElem? (i := 12) rfl))) Via.refl e3 F_s (g := (mkF m 24 #[.val (.ref a), .val (.long tt), .second, .val (.long (own_f4 tt (86400 : Int64))), .second, .val (.int (1 : Int32)), .unset, .unset] [(.ref a), (.int (1 : Int32))])) rfl rfl (hb hby own_d3_24)
    refine Go.s (fun {t} => st28 t) ?_
    show Go p.tables e below P (T28.setTop (mkF m 27 #[.val (.ref a), .val (.long tt), .second, .val (.long (own_f4 tt (86400 : Int64))), .second, .val (.int (1 : Int32)), .unset, .unset] [(.ref b), (.int (1 : Int32))]))
    obtain ⟨cl29, Ar29, q29, Sz29, Ng29, Ha29, Ft29⟩ := id V_b
    refine Go.s (fun {t} kz => X28.arraylength hx (by rw [e28]; exact Ar29.1) (State.isArrayOf_alike hZ.alike Ar29.2.1) (g := (mkF m 27 #[.val (.ref a), .val (.long tt), .second, .val (.long (own_f4 tt (86400 : Int64))), .second, .val (.int (1 : Int32)), .unset, .unset] [(.ref b), (.int (1 : Int32))])) rfl rfl (hb hby own_d3_27) _ kz) ?_
    rw [len_of Sz29 Ng29]
    show Go p.tables e below P (T28.setTop (mkF m 28 #[.val (.ref a), .val (.long tt), .second, .val (.long (own_f4 tt (86400 : Int64))), .second, .val (.int (1 : Int32)), .unset, .unset] [(.int (3 : Int32)), (.int (1 : Int32))]))
    refine Go.s (fun kz => XS.icmpNo X28.here hx rfl (hb hby own_d3_28) rfl (XT.ii_ge_f (by decide)) kz) ?_
    show Go p.tables e below P (T28.setTop (mkF m 31 #[.val (.ref a), .val (.long tt), .second, .val (.long (own_f4 tt (86400 : Int64))), .second, .val (.int (1 : Int32)), .unset, .unset] []))
    refine Go.s (fun kz => XT.lloadN X28.here hx rfl (hb hby own_d3_31) rfl kz) ?_
    show Go p.tables e below P (T28.setTop (mkF m 32 #[.val (.ref a), .val (.long tt), .second, .val (.long (own_f4 tt (86400 : Int64))), .second, .val (.int (1 : Int32)), .unset, .unset] [(.long (own_f4 tt (86400 : Int64)))]))
    refine Go.s (fun kz => X28.ldc2J hx hown (mvT hZ (hw _ (List.mem_of_getElem? (i := 19) rfl))) rfl (hb hby own_d3_32) kz) ?_
    show Go p.tables e below P (T28.setTop (mkF m 35 #[.val (.ref a), .val (.long tt), .second, .val (.long (own_f4 tt (86400 : Int64))), .second, .val (.int (1 : Int32)), .unset, .unset] [(.long (86400 : Int64)), (.long (own_f4 tt (86400 : Int64)))]))
    refine Go.s (fun kz => XT.lmul X28.here hx rfl (hb hby own_d3_35) rfl kz) ?_
    show Go p.tables e below P (T28.setTop (mkF m 36 #[.val (.ref a), .val (.long tt), .second, .val (.long (own_f4 tt (86400 : Int64))), .second, .val (.int (1 : Int32)), .unset, .unset] [(.long ((own_f4 tt (86400 : Int64)) * (86400 : Int64)))]))
    refine Go.s (fun kz => XS.aloadN X28.here hx rfl (hb hby own_d3_36) rfl rfl kz) ?_
    show Go p.tables e below P (T28.setTop (mkF m 37 #[.val (.ref a), .val (.long tt), .second, .val (.long (own_f4 tt (86400 : Int64))), .second, .val (.int (1 : Int32)), .unset, .unset] [(.ref a), (.long ((own_f4 tt (86400 : Int64)) * (86400 : Int64)))]))
    obtain ⟨T30, X30, e30, st30⟩ := getF X28 hx hZ hown (host := "") (Or.inl (hw _ (List.mem_of_getElem? (i := 12) rfl))) Via.refl e28 F_s (g := (mkF m 37 #[.val (.ref a), .val (.long tt), .second, .val (.long (own_f4 tt (86400 : Int64))), .second, .val (.int (1 : Int32)), .unset, .unset] [(.ref a), (.long ((own_f4 tt (86400 : Int64)) * (86400 : Int64)))])) rfl rfl (hb hby own_d3_37)
    refine Go.s (fun {t} => st30 t) ?_
    show Go p.tables e below P (T30.setTop (mkF m 40 #[.val (.ref a), .val (.long tt), .second, .val (.long (own_f4 tt (86400 : Int64))), .second, .val (.int (1 : Int32)), .unset, .unset] [(.ref b), (.long ((own_f4 tt (86400 : Int64)) * (86400 : Int64)))]))
    refine Go.s (fun kz => XS.iload X30.here hx rfl (hb hby own_d3_40) rfl kz) ?_
    show Go p.tables e below P (T30.setTop (mkF m 42 #[.val (.ref a), .val (.long tt), .second, .val (.long (own_f4 tt (86400 : Int64))), .second, .val (.int (1 : Int32)), .unset, .unset] [(.int (1 : Int32)), (.ref b), (.long ((own_f4 tt (86400 : Int64)) * (86400 : Int64)))]))
    obtain ⟨cl31, Ar31, q31, Sz31, Ng31, Ha31, Ft31⟩ := id V_b
    have hin31 := inb_of (j := (1 : Int32)) Sz31 ⟨by decide, by decide⟩
    have hat31 := Has.at Ha31 hin31 (v := (.int s1)) rfl
    refine Go.s (fun {t} kz => X30.iaload hx (j := (1 : Int32)) (v := (.int s1)) (by rw [e30]; exact Ar31.1) (State.isArrayOf_alike hZ.alike Ar31.2.1) Ar31.2.2 hin31 hat31 (g := (mkF m 42 #[.val (.ref a), .val (.long tt), .second, .val (.long (own_f4 tt (86400 : Int64))), .second, .val (.int (1 : Int32)), .unset, .unset] [(.int (1 : Int32)), (.ref b), (.long ((own_f4 tt (86400 : Int64)) * (86400 : Int64)))])) rfl rfl (hb hby own_d3_42) _ kz) ?_
    show Go p.tables e below P (T30.setTop (mkF m 43 #[.val (.ref a), .val (.long tt), .second, .val (.long (own_f4 tt (86400 : Int64))), .second, .val (.int (1 : Int32)), .unset, .unset] [(.int s1), (.long ((own_f4 tt (86400 : Int64)) * (86400 : Int64)))]))
    refine Go.s (fun kz => XT.i2l X30.here hx rfl (hb hby own_d3_43) rfl kz) ?_
    show Go p.tables e below P (T30.setTop (mkF m 44 #[.val (.ref a), .val (.long tt), .second, .val (.long (own_f4 tt (86400 : Int64))), .second, .val (.int (1 : Int32)), .unset, .unset] [(.long s1.toInt64), (.long ((own_f4 tt (86400 : Int64)) * (86400 : Int64)))]))
    refine Go.s (fun kz => XT.ladd X30.here hx rfl (hb hby own_d3_44) rfl kz) ?_
    show Go p.tables e below P (T30.setTop (mkF m 45 #[.val (.ref a), .val (.long tt), .second, .val (.long (own_f4 tt (86400 : Int64))), .second, .val (.int (1 : Int32)), .unset, .unset] [(.long (((own_f4 tt (86400 : Int64)) * (86400 : Int64)) + s1.toInt64))]))
    refine Go.s (fun kz => XT.lstore X30.here hx rfl (hb hby own_d3_45) rfl (l' := #[.val (.ref a), .val (.long tt), .second, .val (.long (own_f4 tt (86400 : Int64))), .second, .val (.int (1 : Int32)), .val (.long (((own_f4 tt (86400 : Int64)) * (86400 : Int64)) + s1.toInt64)), .second]) rfl kz) ?_
    show Go p.tables e below P (T30.setTop (mkF m 47 #[.val (.ref a), .val (.long tt), .second, .val (.long (own_f4 tt (86400 : Int64))), .second, .val (.int (1 : Int32)), .val (.long (((own_f4 tt (86400 : Int64)) * (86400 : Int64)) + s1.toInt64)), .second] []))
    refine Go.s (fun kz => XS.goto X30.here hx rfl (pc0 := 47) (pc' := 67) rfl (hb hby own_d3_47) (by decide) (by decide) kz) ?_
    show Go p.tables e below P (T30.setTop (mkF m 67 #[.val (.ref a), .val (.long tt), .second, .val (.long (own_f4 tt (86400 : Int64))), .second, .val (.int (1 : Int32)), .val (.long (((own_f4 tt (86400 : Int64)) * (86400 : Int64)) + s1.toInt64)), .second] []))
    refine Go.s (fun kz => XT.lload X30.here hx rfl (hb hby own_d3_67) rfl kz) ?_
    show Go p.tables e below P (T30.setTop (mkF m 69 #[.val (.ref a), .val (.long tt), .second, .val (.long (own_f4 tt (86400 : Int64))), .second, .val (.int (1 : Int32)), .val (.long (((own_f4 tt (86400 : Int64)) * (86400 : Int64)) + s1.toInt64)), .second] [(.long (((own_f4 tt (86400 : Int64)) * (86400 : Int64)) + s1.toInt64))]))
    exact Go.retJ X30 hx hlk hret (hb hby own_d3_69) (fun U hU hF => hP U _ _ (by rw [hU, e30]; exact ⟨(Or.inr (Or.inr (Or.inr (Or.inr (Or.inr (Or.inr (⟨rfl, k0, k1⟩))))))), N3, rfl⟩) ⟨hF.1, hF.2.1, hF.2.2.mono (by decide) (by decide)⟩)
theorem own_n3 (p n : Int32) (h : n = (p &&& 2147483647) % 3 + 1) : n = 1 ∨ n = 2 ∨ n = 3 := by
  have e := Jvm.Kit.i32_mask p 2147483647 (k := 31) (by decide) (by decide)
  have c1 : (1 : Int32).toInt = 1 := rfl
  have c2 : (2 : Int32).toInt = 2 := rfl
  have c3 : (3 : Int32).toInt = 3 := rfl
  have r : ((p &&& 2147483647) % 3).toInt = (p &&& 2147483647).toInt % 3 := Jvm.Kit.i32_rem_nonneg (by omega)
  have q : n.toInt = (p &&& 2147483647).toInt % 3 + 1 := by rw [h, Jvm.Kit.i32_add (by omega) (by omega), r, c1]
  simp only [← Int32.toInt_inj, c1, c2, c3]; omega
theorem own_s (p d : Int32) (h : d = (p &&& 2147483647) % 86400) : 0 ≤ d.toInt ∧ d.toInt < 86400 := by
  have e := Jvm.Kit.i32_mask p 2147483647 (k := 31) (by decide) (by decide)
  have c1 : (86400 : Int32).toInt = 86400 := rfl
  rw [h, Jvm.Kit.i32_rem_nonneg (by omega), c1]; omega
theorem own_rr (t : Int64) : (¬ t % 86400 < 0 → (t % 86400).toInt = t.toInt % 86400) ∧ (t % 86400 < 0 → (t % 86400 + 86400).toInt = t.toInt % 86400) := by
  have c : (86400 : Int64).toInt = 86400 := rfl
  have c0 : (0 : Int64).toInt = 0 := rfl
  have m : (t % 86400).toInt = t.toInt.tmod 86400 := by rw [Int64.toInt_mod, c]
  have q := own_tmod t.toInt 86400
  simp only [Int64.lt_iff_toInt_lt, c0]
  refine ⟨fun h => ?_, fun h => ?_⟩
  · omega
  · rw [Jvm.Kit.i64_add (by omega) (by omega), c]; omega
theorem own_fm (t : Int64) : (own_f5 t 86400).toInt = t.toInt % 86400 := by
  have c : (86400 : Int64).toInt = 86400 := rfl
  have c0 : (0 : Int64).toInt = 0 := rfl
  have m : (t % 86400).toInt = t.toInt.tmod 86400 := by rw [Int64.toInt_mod, c]
  have ng : (t ^^^ 86400 < 0) ↔ t.toInt < 0 := by rw [XT.xor_neg64, XT.negI64, XT.negI64, c]; omega
  have q := own_tmod t.toInt 86400
  rw [own_f5]
  by_cases a : t ^^^ 86400 < 0
  · have a' := ng.mp a
    rw [if_pos a]
    by_cases b : t % 86400 = 0
    · rw [if_pos b, b, c0]; rw [b, c0] at m; omega
    · have b' : (t % 86400).toInt ≠ 0 := fun z => b (Int64.toInt_inj.mp z)
      rw [if_neg b, Jvm.Kit.i64_add (by omega) (by omega), c]; omega
  · have a' : ¬ t.toInt < 0 := fun z => a (ng.mpr z)
    rw [if_neg a]; omega
theorem own_key (t : Int64) : (own_f5 t 86400).toInt32.toInt = t.toInt % 86400 := by
  have q := own_fm t
  rw [Jvm.Kit.i32_of_i64 (by omega) (by omega), q]
theorem own_fd (t : Int64) : (own_f4 t 86400).toInt = t.toInt / 86400 := by
  have c : (86400 : Int64).toInt = 86400 := rfl
  have c1 : (1 : Int64).toInt = 1 := rfl
  have := t.toInt_lt; have := t.le_toInt
  have d : (t / 86400).toInt = t.toInt.tdiv 86400 := by rw [Jvm.Kit.i64_div (by rw [c]; omega), c]
  have ng : (t ^^^ 86400 < 0) ↔ t.toInt < 0 := by rw [XT.xor_neg64, XT.negI64, XT.negI64, c]; omega
  have q := own_tdiv t.toInt 86400
  have m : (t / 86400 * 86400).toInt = t.toInt.tdiv 86400 * 86400 := by rw [Jvm.Kit.i64_mul (by rw [c, d]; omega) (by rw [c, d]; omega), d, c]
  rw [own_f4]
  by_cases a : t ^^^ 86400 < 0
  · have a' := ng.mp a
    rw [if_pos a]
    by_cases b : t / 86400 * 86400 = t
    · rw [if_pos b]; rw [b] at m; omega
    · have b' : t.toInt.tdiv 86400 * 86400 ≠ t.toInt := fun z => b (Int64.toInt_inj.mp (by rw [m, z]))
      rw [if_neg b, Jvm.Kit.i64_sub (by omega) (by omega), c1]; omega
  · have a' : ¬ t.toInt < 0 := fun z => a (ng.mpr z)
    rw [if_neg a]; omega
theorem own_mod (x y : Int64) (h : x.toInt % 2 ^ 64 = y.toInt % 2 ^ 64) : x = y := by
  apply Int64.toInt_inj.mp
  have := x.toInt_lt; have := x.le_toInt; have := y.toInt_lt; have := y.le_toInt
  omega
theorem own_got (t rr : Int64) (s : Int32) (h : rr.toInt = t.toInt % 86400) : own_f4 t 86400 * 86400 + s.toInt64 = t - rr + s.toInt64 := by
  have c : (86400 : Int64).toInt = 86400 := rfl
  apply own_mod
  rw [Int64.toInt_add, Int64.toInt_add, Int64.toInt_mul, Int64.toInt_sub, own_fd, h, c]
  simp only [Int.bmod_def]
  omega
theorem own_got2 (t rr : Int64) (s : Int32) (h : rr.toInt = t.toInt % 86400) : (own_f4 t 86400 + 1) * 86400 + s.toInt64 = t - rr + 86400 + s.toInt64 := by
  have c : (86400 : Int64).toInt = 86400 := rfl
  have c1 : (1 : Int64).toInt = 1 := rfl
  have e : (own_f4 t 86400 + 1).toInt = t.toInt / 86400 + 1 := by
    have := t.toInt_lt; have := t.le_toInt
    rw [Jvm.Kit.i64_add (by rw [own_fd]; omega) (by rw [own_fd]; omega), own_fd, c1]
  apply own_mod
  rw [Int64.toInt_add, Int64.toInt_add, Int64.toInt_add, Int64.toInt_mul, Int64.toInt_sub, e, h, c]
  simp only [Int.bmod_def]
  omega
theorem own_ef0 (m : MethodId) (p0 : Int32) (p1 : Int32) (p2 : Int32) (p3 : Int32) (tt : Int64) : entryFrame m #[(.int p0), (.int p1), (.int p2), (.int p3), (.long tt)] maxLocals = mkF m 0 #[.val (.int p0), .val (.int p1), .val (.int p2), .val (.int p3), .val (.long tt), .second, .unset, .unset, .unset, .unset, .unset, .unset, .unset, .unset, .unset, .unset, .unset, .unset, .unset, .unset, .unset] [] := by
  (first | (simp [entryFrame, mkF, argsToLocals, Value.category, maxLocals]; done) | rfl)
theorem own_pn_2 : plainName "com/example/tempo_feed/tempofeed/core/DailyPollsFirstAtOrAfterPinLaw" = true := by first | (simp [plainName, overriddenIn]; done) | decide +kernel
theorem own_pd_4 : parseMethodDescriptor "([I)V" = some ⟨[(.array .int)], none⟩ := by decide +kernel
theorem own_pd_5 : parseMethodDescriptor "(J)J" = some ⟨[.long], some .long⟩ := by decide +kernel
set_option maxRecDepth 65536 in
set_option maxHeartbeats 40000000 in
theorem own_rm0 (l : Launch) (Z : State) (a0 : Array Value) (hw : ∀ d ∈ tables_1, d.before a0 Z = true) (ws : List Jvm.Cond) (p0 : Int32) (p1 : Int32) (p2 : Int32) (p3 : Int32) (tt : Int64) (h0 : Heap) (n0 : Nat) (Z0 : n0 ≤ h0.size)  :
    Con l Z x code maxLocals ret ws room_1 #[(.int p0), (.int p1), (.int p2), (.int p3), (.long tt)] h0 (fun v h L => v = some (.int 1) ∧ Fr n0 L) := by
  refine Con.intro (plainFor_of_name own_pn_2) ?_
  intro p e s m below meth c s₁ P hx hby hml hown hnm hret hlk hZ X0 e0 hP
  have N0 := Fr.nil n0
  have hml : c.maxLocals = 21 := hml
  have hown : s.vm.findClass "com/example/tempo_feed/tempofeed/core/DailyPollsFirstAtOrAfterPinLaw" = some m.cls := hown
  have hret : meth.sig.returnType = some .boolean := hret
  refine Go.cast (own_ef0 m p0 p1 p2 p3 tt) ?_
  show Go p.tables e below P (s₁.setTop (mkF m 0 #[.val (.int p0), .val (.int p1), .val (.int p2), .val (.int p3), .val (.long tt), .second, .unset, .unset, .unset, .unset, .unset, .unset, .unset, .unset, .unset, .unset, .unset, .unset, .unset, .unset, .unset] []))
  refine Go.s (fun kz => XS.iloadN X0.here hx rfl (hb hby at_0) rfl kz) ?_
  refine Go.s (fun kz => X0.ldcI hx hown (mvT hZ (hw _ (List.mem_of_getElem? (i := 0) rfl))) rfl (hb hby at_1) kz) ?_
  refine Go.s (fun kz => XS.iand X0.here hx rfl (hb hby at_3) rfl kz) ?_
  refine Go.s (fun kz => XS.iconst X0.here hx rfl (hb hby at_4) kz) ?_
  show Go p.tables e below P (s₁.setTop (mkF m 5 #[.val (.int p0), .val (.int p1), .val (.int p2), .val (.int p3), .val (.long tt), .second, .unset, .unset, .unset, .unset, .unset, .unset, .unset, .unset, .unset, .unset, .unset, .unset, .unset, .unset, .unset] [(.int (3 : Int32)), (.int (p0 &&& (2147483647 : Int32)))]))
  refine Go.s (fun kz => iremM X0 hx rfl (hb hby at_5) rfl (by decide) kz) ?_
  refine Go.s (fun kz => XS.iconst X0.here hx rfl (hb hby at_6) kz) ?_
  refine Go.s (fun kz => XS.iadd X0.here hx rfl (hb hby at_7) rfl kz) ?_
  refine Go.s (fun kz => XS.istore X0.here hx rfl (hb hby at_8) rfl (l' := #[.val (.int p0), .val (.int p1), .val (.int p2), .val (.int p3), .val (.long tt), .second, .val (.int (((p0 &&& (2147483647 : Int32)) % (3 : Int32)) + (1 : Int32))), .unset, .unset, .unset, .unset, .unset, .unset, .unset, .unset, .unset, .unset, .unset, .unset, .unset, .unset]) rfl kz) ?_
  show Go p.tables e below P (s₁.setTop (mkF m 10 #[.val (.int p0), .val (.int p1), .val (.int p2), .val (.int p3), .val (.long tt), .second, .val (.int (((p0 &&& (2147483647 : Int32)) % (3 : Int32)) + (1 : Int32))), .unset, .unset, .unset, .unset, .unset, .unset, .unset, .unset, .unset, .unset, .unset, .unset, .unset, .unset] []))
  refine (?_ : ∀ nn : Int32, nn = (((p0 &&& (2147483647 : Int32)) % (3 : Int32)) + (1 : Int32)) → Go p.tables e below P (s₁.setTop (mkF m 10 #[.val (.int p0), .val (.int p1), .val (.int p2), .val (.int p3), .val (.long tt), .second, .val (.int nn), .unset, .unset, .unset, .unset, .unset, .unset, .unset, .unset, .unset, .unset, .unset, .unset, .unset, .unset] []))) _ rfl
  intro nn hnn
  refine Go.s (fun kz => XS.iloadN X0.here hx rfl (hb hby at_10) rfl kz) ?_
  refine Go.s (fun kz => X0.ldcI hx hown (mvT hZ (hw _ (List.mem_of_getElem? (i := 0) rfl))) rfl (hb hby at_11) kz) ?_
  refine Go.s (fun kz => XS.iand X0.here hx rfl (hb hby at_13) rfl kz) ?_
  refine Go.s (fun kz => X0.ldcI hx hown (mvT hZ (hw _ (List.mem_of_getElem? (i := 1) rfl))) rfl (hb hby at_14) kz) ?_
  show Go p.tables e below P (s₁.setTop (mkF m 16 #[.val (.int p0), .val (.int p1), .val (.int p2), .val (.int p3), .val (.long tt), .second, .val (.int nn), .unset, .unset, .unset, .unset, .unset, .unset, .unset, .unset, .unset, .unset, .unset, .unset, .unset, .unset] [(.int (86400 : Int32)), (.int (p1 &&& (2147483647 : Int32)))]))
  refine Go.s (fun kz => iremM X0 hx rfl (hb hby at_16) rfl (by decide) kz) ?_
  refine Go.s (fun kz => XS.istore X0.here hx rfl (hb hby at_17) rfl (l' := #[.val (.int p0), .val (.int p1), .val (.int p2), .val (.int p3), .val (.long tt), .second, .val (.int nn), .val (.int ((p1 &&& (2147483647 : Int32)) % (86400 : Int32))), .unset, .unset, .unset, .unset, .unset, .unset, .unset, .unset, .unset, .unset, .unset, .unset, .unset]) rfl kz) ?_
  show Go p.tables e below P (s₁.setTop (mkF m 19 #[.val (.int p0), .val (.int p1), .val (.int p2), .val (.int p3), .val (.long tt), .second, .val (.int nn), .val (.int ((p1 &&& (2147483647 : Int32)) % (86400 : Int32))), .unset, .unset, .unset, .unset, .unset, .unset, .unset, .unset, .unset, .unset, .unset, .unset, .unset] []))
  refine (?_ : ∀ x0 : Int32, x0 = ((p1 &&& (2147483647 : Int32)) % (86400 : Int32)) → Go p.tables e below P (s₁.setTop (mkF m 19 #[.val (.int p0), .val (.int p1), .val (.int p2), .val (.int p3), .val (.long tt), .second, .val (.int nn), .val (.int x0), .unset, .unset, .unset, .unset, .unset, .unset, .unset, .unset, .unset, .unset, .unset, .unset, .unset] []))) _ rfl
  intro x0 hx0
  have r0 := own_s p1 x0 hx0
  refine Go.s (fun kz => XS.iloadN X0.here hx rfl (hb hby at_19) rfl kz) ?_
  refine Go.s (fun kz => X0.ldcI hx hown (mvT hZ (hw _ (List.mem_of_getElem? (i := 0) rfl))) rfl (hb hby at_20) kz) ?_
  refine Go.s (fun kz => XS.iand X0.here hx rfl (hb hby at_22) rfl kz) ?_
  refine Go.s (fun kz => X0.ldcI hx hown (mvT hZ (hw _ (List.mem_of_getElem? (i := 1) rfl))) rfl (hb hby at_23) kz) ?_
  show Go p.tables e below P (s₁.setTop (mkF m 25 #[.val (.int p0), .val (.int p1), .val (.int p2), .val (.int p3), .val (.long tt), .second, .val (.int nn), .val (.int x0), .unset, .unset, .unset, .unset, .unset, .unset, .unset, .unset, .unset, .unset, .unset, .unset, .unset] [(.int (86400 : Int32)), (.int (p2 &&& (2147483647 : Int32)))]))
  refine Go.s (fun kz => iremM X0 hx rfl (hb hby at_25) rfl (by decide) kz) ?_
  refine Go.s (fun kz => XS.istore X0.here hx rfl (hb hby at_26) rfl (l' := #[.val (.int p0), .val (.int p1), .val (.int p2), .val (.int p3), .val (.long tt), .second, .val (.int nn), .val (.int x0), .val (.int ((p2 &&& (2147483647 : Int32)) % (86400 : Int32))), .unset, .unset, .unset, .unset, .unset, .unset, .unset, .unset, .unset, .unset, .unset, .unset]) rfl kz) ?_
  show Go p.tables e below P (s₁.setTop (mkF m 28 #[.val (.int p0), .val (.int p1), .val (.int p2), .val (.int p3), .val (.long tt), .second, .val (.int nn), .val (.int x0), .val (.int ((p2 &&& (2147483647 : Int32)) % (86400 : Int32))), .unset, .unset, .unset, .unset, .unset, .unset, .unset, .unset, .unset, .unset, .unset, .unset] []))
  refine (?_ : ∀ x1 : Int32, x1 = ((p2 &&& (2147483647 : Int32)) % (86400 : Int32)) → Go p.tables e below P (s₁.setTop (mkF m 28 #[.val (.int p0), .val (.int p1), .val (.int p2), .val (.int p3), .val (.long tt), .second, .val (.int nn), .val (.int x0), .val (.int x1), .unset, .unset, .unset, .unset, .unset, .unset, .unset, .unset, .unset, .unset, .unset, .unset] []))) _ rfl
  intro x1 hx1
  have r1 := own_s p2 x1 hx1
  refine Go.s (fun kz => XS.iloadN X0.here hx rfl (hb hby at_28) rfl kz) ?_
  refine Go.s (fun kz => X0.ldcI hx hown (mvT hZ (hw _ (List.mem_of_getElem? (i := 0) rfl))) rfl (hb hby at_29) kz) ?_
  refine Go.s (fun kz => XS.iand X0.here hx rfl (hb hby at_31) rfl kz) ?_
  refine Go.s (fun kz => X0.ldcI hx hown (mvT hZ (hw _ (List.mem_of_getElem? (i := 1) rfl))) rfl (hb hby at_32) kz) ?_
  show Go p.tables e below P (s₁.setTop (mkF m 34 #[.val (.int p0), .val (.int p1), .val (.int p2), .val (.int p3), .val (.long tt), .second, .val (.int nn), .val (.int x0), .val (.int x1), .unset, .unset, .unset, .unset, .unset, .unset, .unset, .unset, .unset, .unset, .unset, .unset] [(.int (86400 : Int32)), (.int (p3 &&& (2147483647 : Int32)))]))
  refine Go.s (fun kz => iremM X0 hx rfl (hb hby at_34) rfl (by decide) kz) ?_
  refine Go.s (fun kz => XS.istore X0.here hx rfl (hb hby at_35) rfl (l' := #[.val (.int p0), .val (.int p1), .val (.int p2), .val (.int p3), .val (.long tt), .second, .val (.int nn), .val (.int x0), .val (.int x1), .val (.int ((p3 &&& (2147483647 : Int32)) % (86400 : Int32))), .unset, .unset, .unset, .unset, .unset, .unset, .unset, .unset, .unset, .unset, .unset]) rfl kz) ?_
  show Go p.tables e below P (s₁.setTop (mkF m 37 #[.val (.int p0), .val (.int p1), .val (.int p2), .val (.int p3), .val (.long tt), .second, .val (.int nn), .val (.int x0), .val (.int x1), .val (.int ((p3 &&& (2147483647 : Int32)) % (86400 : Int32))), .unset, .unset, .unset, .unset, .unset, .unset, .unset, .unset, .unset, .unset, .unset] []))
  refine (?_ : ∀ x2 : Int32, x2 = ((p3 &&& (2147483647 : Int32)) % (86400 : Int32)) → Go p.tables e below P (s₁.setTop (mkF m 37 #[.val (.int p0), .val (.int p1), .val (.int p2), .val (.int p3), .val (.long tt), .second, .val (.int nn), .val (.int x0), .val (.int x1), .val (.int x2), .unset, .unset, .unset, .unset, .unset, .unset, .unset, .unset, .unset, .unset, .unset] []))) _ rfl
  intro x2 hx2
  have r2 := own_s p3 x2 hx2
  have J56 : ∀ (a1 : Int32) (b1 : Int32) (t1 : Slot) (g1 : (0 ≤ a1.toInt ∧ a1.toInt < 86400) ∧ (0 ≤ b1.toInt ∧ b1.toInt < 86400) ∧ a1.toInt ≤ b1.toInt) (ht1 : t1 = Slot.unset ∨ ∃ w, t1 = Slot.val w ∧ w.category = 1), Go p.tables e below P (s₁.setTop (mkF m 56 #[.val (.int p0), .val (.int p1), .val (.int p2), .val (.int p3), .val (.long tt), .second, .val (.int nn), .val (.int a1), .val (.int b1), .val (.int x2), t1, .unset, .unset, .unset, .unset, .unset, .unset, .unset, .unset, .unset, .unset] [])) := by
    intro a1 b1 t1 g1 ht1
    have J75 : ∀ (b2 : Int32) (c2 : Int32) (t2 : Slot) (g2 : (0 ≤ a1.toInt ∧ a1.toInt < 86400) ∧ (0 ≤ b2.toInt ∧ b2.toInt < 86400) ∧ (0 ≤ c2.toInt ∧ c2.toInt < 86400) ∧ a1.toInt ≤ c2.toInt ∧ b2.toInt ≤ c2.toInt) (ht2 : t2 = Slot.unset ∨ ∃ w, t2 = Slot.val w ∧ w.category = 1), Go p.tables e below P (s₁.setTop (mkF m 75 #[.val (.int p0), .val (.int p1), .val (.int p2), .val (.int p3), .val (.long tt), .second, .val (.int nn), .val (.int a1), .val (.int b2), .val (.int c2), t2, .unset, .unset, .unset, .unset, .unset, .unset, .unset, .unset, .unset, .unset] [])) := by
      intro b2 c2 t2 g2 ht2
      have J94 : ∀ (s0 : Int32) (s1 : Int32) (t3 : Slot) (g3 : (0 ≤ s0.toInt ∧ s0.toInt < 86400) ∧ (0 ≤ s1.toInt ∧ s1.toInt < 86400) ∧ (0 ≤ c2.toInt ∧ c2.toInt < 86400) ∧ s0.toInt ≤ s1.toInt ∧ s1.toInt ≤ c2.toInt) (ht3 : t3 = Slot.unset ∨ ∃ w, t3 = Slot.val w ∧ w.category = 1), Go p.tables e below P (s₁.setTop (mkF m 94 #[.val (.int p0), .val (.int p1), .val (.int p2), .val (.int p3), .val (.long tt), .second, .val (.int nn), .val (.int s0), .val (.int s1), .val (.int c2), t3, .unset, .unset, .unset, .unset, .unset, .unset, .unset, .unset, .unset, .unset] [])) := by
        intro s0 s1 t3 g3 ht3
        rcases own_n3 p0 nn hnn with rfl | rfl | rfl
        · skip
          show Go p.tables e below P (s₁.setTop (mkF m 94 #[.val (.int p0), .val (.int p1), .val (.int p2), .val (.int p3), .val (.long tt), .second, .val (.int (1 : Int32)), .val (.int s0), .val (.int s1), .val (.int c2), t3, .unset, .unset, .unset, .unset, .unset, .unset, .unset, .unset, .unset, .unset] []))
          refine Go.s (fun kz => XS.iload X0.here hx rfl (hb hby at_94) rfl kz) ?_
          refine Go.s (fun kz => XS.iconst X0.here hx rfl (hb hby at_96) kz) ?_
          show Go p.tables e below P (s₁.setTop (mkF m 97 #[.val (.int p0), .val (.int p1), .val (.int p2), .val (.int p3), .val (.long tt), .second, .val (.int (1 : Int32)), .val (.int s0), .val (.int s1), .val (.int c2), t3, .unset, .unset, .unset, .unset, .unset, .unset, .unset, .unset, .unset, .unset] [(.int (2 : Int32)), (.int (1 : Int32))]))
          refine Go.s (fun kz => XS.icmpYes X0.here hx rfl (pc0 := 97) (pc' := 109) rfl (hb hby at_97) rfl (XT.ii_lt_t (by decide)) (by decide) (by decide) kz) ?_
          show Go p.tables e below P (s₁.setTop (mkF m 109 #[.val (.int p0), .val (.int p1), .val (.int p2), .val (.int p3), .val (.long tt), .second, .val (.int (1 : Int32)), .val (.int s0), .val (.int s1), .val (.int c2), t3, .unset, .unset, .unset, .unset, .unset, .unset, .unset, .unset, .unset, .unset] []))
          refine Go.s (fun kz => XS.iload X0.here hx rfl (hb hby at_109) rfl kz) ?_
          refine Go.s (fun kz => XS.iconst X0.here hx rfl (hb hby at_111) kz) ?_
          show Go p.tables e below P (s₁.setTop (mkF m 112 #[.val (.int p0), .val (.int p1), .val (.int p2), .val (.int p3), .val (.long tt), .second, .val (.int (1 : Int32)), .val (.int s0), .val (.int s1), .val (.int c2), t3, .unset, .unset, .unset, .unset, .unset, .unset, .unset, .unset, .unset, .unset] [(.int (3 : Int32)), (.int (1 : Int32))]))
          refine Go.s (fun kz => XS.icmpYes X0.here hx rfl (pc0 := 112) (pc' := 124) rfl (hb hby at_112) rfl (XT.ii_lt_t (by decide)) (by decide) (by decide) kz) ?_
          show Go p.tables e below P (s₁.setTop (mkF m 124 #[.val (.int p0), .val (.int p1), .val (.int p2), .val (.int p3), .val (.long tt), .second, .val (.int (1 : Int32)), .val (.int s0), .val (.int s1), .val (.int c2), t3, .unset, .unset, .unset, .unset, .unset, .unset, .unset, .unset, .unset, .unset] []))
          refine Go.s (fun kz => XS.iload X0.here hx rfl (hb hby at_124) rfl kz) ?_
          refine Go.s (fun kz => XS.iconst X0.here hx rfl (hb hby at_126) kz) ?_
          show Go p.tables e below P (s₁.setTop (mkF m 127 #[.val (.int p0), .val (.int p1), .val (.int p2), .val (.int p3), .val (.long tt), .second, .val (.int (1 : Int32)), .val (.int s0), .val (.int s1), .val (.int c2), t3, .unset, .unset, .unset, .unset, .unset, .unset, .unset, .unset, .unset, .unset] [(.int (1 : Int32)), (.int (1 : Int32))]))
          refine Go.s (fun kz => XS.icmpNo X0.here hx rfl (hb hby at_127) rfl (XT.ii_ne_f (by decide)) kz) ?_
          show Go p.tables e below P (s₁.setTop (mkF m 130 #[.val (.int p0), .val (.int p1), .val (.int p2), .val (.int p3), .val (.long tt), .second, .val (.int (1 : Int32)), .val (.int s0), .val (.int s1), .val (.int c2), t3, .unset, .unset, .unset, .unset, .unset, .unset, .unset, .unset, .unset, .unset] []))
          refine Go.s (fun kz => XS.iconst X0.here hx rfl (hb hby at_130) kz) ?_
          show Go p.tables e below P (s₁.setTop (mkF m 131 #[.val (.int p0), .val (.int p1), .val (.int p2), .val (.int p3), .val (.long tt), .second, .val (.int (1 : Int32)), .val (.int s0), .val (.int s1), .val (.int c2), t3, .unset, .unset, .unset, .unset, .unset, .unset, .unset, .unset, .unset, .unset] [(.int (1 : Int32))]))
          obtain ⟨T1, H1, k1, X1, e1, E1, A1, st1⟩ := newP X0 hx hZ (hw _ (List.mem_of_getElem? (i := 2) rfl)) e0 (g := (mkF m 131 #[.val (.int p0), .val (.int p1), .val (.int p2), .val (.int p3), .val (.long tt), .second, .val (.int (1 : Int32)), .val (.int s0), .val (.int s1), .val (.int c2), t3, .unset, .unset, .unset, .unset, .unset, .unset, .unset, .unset, .unset, .unset] [(.int (1 : Int32))])) rfl (hb hby at_131) rfl (by decide) (cap := 1) (by decide) (by decide) (by decide) (by decide)
          refine Go.s (fun {t} => st1 t) ?_
          obtain ⟨b1, g1⟩ : ∃ z, z = h0.size := ⟨_, rfl⟩
          rw [← g1] at A1
          rw [← g1]
          have G_b1 : n0 ≤ b1 := Nat.le_trans Z0 (Nat.le_of_eq g1.symm)
          have Zs1 := Nat.le_trans Z0 E1.1
          have V1 : Arv Z H1 b1 k1 .int (1 : Int32) [(.int (0 : Int32))] (.int (0 : Int32)) := (Arv.new A1 (by decide)).pad (pad_rep [] (.int (0 : Int32)) 1)
          refine Go.s (fun kz => XS.dup X1.here hx rfl (hb hby at_133) rfl rfl kz) ?_
          refine Go.s (fun kz => XS.iconst X1.here hx rfl (hb hby at_134) kz) ?_
          refine Go.s (fun kz => XS.iload X1.here hx rfl (hb hby at_135) rfl kz) ?_
          show Go p.tables e below P (T1.setTop (mkF m 137 #[.val (.int p0), .val (.int p1), .val (.int p2), .val (.int p3), .val (.long tt), .second, .val (.int (1 : Int32)), .val (.int s0), .val (.int s1), .val (.int c2), t3, .unset, .unset, .unset, .unset, .unset, .unset, .unset, .unset, .unset, .unset] [(.int s0), (.int (0 : Int32)), (.ref b1), (.ref b1)]))
          obtain ⟨cl2, Ar2, q2, Sz2, Ng2, Ha2, Ft2⟩ := id V1
          have hin2 := inb_of (j := (0 : Int32)) Sz2 ⟨by decide, by decide⟩
          obtain ⟨T2, H2, X2, e2, W2, st2⟩ := stI X1 hx hZ e1 Ar2 (j := (0 : Int32)) hin2 (g := (mkF m 137 #[.val (.int p0), .val (.int p1), .val (.int p2), .val (.int p3), .val (.long tt), .second, .val (.int (1 : Int32)), .val (.int s0), .val (.int s1), .val (.int c2), t3, .unset, .unset, .unset, .unset, .unset, .unset, .unset, .unset, .unset, .unset] [(.int s0), (.int (0 : Int32)), (.ref b1), (.ref b1)])) rfl rfl (hb hby at_137)
          refine Go.s (fun {t} => st2 t) ?_
          have V2 : Arv Z H2 b1 k1 .int (1 : Int32) [(.int s0)] (.int (0 : Int32)) := Arv.set Ar2 q2 Sz2 Ng2 Ha2 Ft2 rfl W2 0 rfl (Nat.le_of_ble_eq_true rfl)
          have N2 := Fr.snoc X2 N0 G_b1
          have Zs2 := Nat.le_trans Zs1 (Keep.of_wr W2).1
          refine Go.s (fun kz => XS.astore X2.here hx rfl (hb hby at_138) rfl rfl (l' := #[.val (.int p0), .val (.int p1), .val (.int p2), .val (.int p3), .val (.long tt), .second, .val (.int (1 : Int32)), .val (.int s0), .val (.int s1), .val (.int c2), t3, .val (.ref b1), .unset, .unset, .unset, .unset, .unset, .unset, .unset, .unset, .unset]) rfl kz) ?_
          refine Go.s (fun kz => XS.goto X2.here hx rfl (pc0 := 140) (pc' := 187) rfl (hb hby at_140) (by decide) (by decide) kz) ?_
          show Go p.tables e below P (T2.setTop (mkF m 187 #[.val (.int p0), .val (.int p1), .val (.int p2), .val (.int p3), .val (.long tt), .second, .val (.int (1 : Int32)), .val (.int s0), .val (.int s1), .val (.int c2), t3, .val (.ref b1), .unset, .unset, .unset, .unset, .unset, .unset, .unset, .unset, .unset] []))
          obtain ⟨T4, H4, X4, e4, E4, A4, D4, U4, st4⟩ := newO X2 hx hZ hown (hw _ (List.mem_of_getElem? (i := 3) rfl)) (hw _ (List.mem_of_getElem? (i := 4) rfl)) (hw _ (List.mem_of_getElem? (i := 5) rfl)) e2 (g := (mkF m 187 #[.val (.int p0), .val (.int p1), .val (.int p2), .val (.int p3), .val (.long tt), .second, .val (.int (1 : Int32)), .val (.int s0), .val (.int s1), .val (.int c2), t3, .val (.ref b1), .unset, .unset, .unset, .unset, .unset, .unset, .unset, .unset, .unset] [])) rfl (hb hby at_187) (by decide) (by decide)
          refine Go.s (fun {t} => st4 t) ?_
          obtain ⟨b4, g4⟩ : ∃ z, z = H2.size := ⟨_, rfl⟩
          rw [← g4] at A4 D4 U4
          rw [← g4]
          have ne_b1_b4 : b1 ≠ b4 := Nat.ne_of_lt (Nat.lt_of_lt_of_le V2.lt (Nat.le_of_eq g4.symm))
          have V2_5 := Arv.ext V2 E4
          have G_b4 : n0 ≤ b4 := Nat.le_trans Zs2 (Nat.le_of_eq g4.symm)
          have Zs4 := Nat.le_trans Zs2 E4.1
          have Kn4 := Kn.of_new U4
          refine Go.s (fun kz => XS.dup X4.here hx rfl (hb hby at_190) rfl rfl kz) ?_
          refine Go.s (fun kz => XS.aload X4.here hx rfl (hb hby at_191) rfl rfl kz) ?_
          show Go p.tables e below P (T4.setTop (mkF m 193 #[.val (.int p0), .val (.int p1), .val (.int p2), .val (.int p3), .val (.long tt), .second, .val (.int (1 : Int32)), .val (.int s0), .val (.int s1), .val (.int c2), t3, .val (.ref b1), .unset, .unset, .unset, .unset, .unset, .unset, .unset, .unset, .unset] [(.ref b1), (.ref b4), (.ref b4)]))
          obtain ⟨v6, T6, L6, X6, Q6, st6⟩ := Con.special (own_rm1 l Z a0 hw [] b4 (.ref b1) H4 n0 Zs4 A4 Kn4 G_b4 rfl ) rfl X4 hx hZ (W := 1) hown (hw _ (List.mem_of_getElem? (i := 6) rfl)) (hw _ (List.mem_of_getElem? (i := 7) rfl)) (hw _ (List.mem_of_getElem? (i := 5) rfl)) (hw _ (List.mem_of_getElem? (i := 8) rfl)) (by decide) (by decide) (by decide) (by decide) (by decide) e4 (g := (mkF m 193 #[.val (.int p0), .val (.int p1), .val (.int p2), .val (.int p3), .val (.long tt), .second, .val (.int (1 : Int32)), .val (.int s0), .val (.int s1), .val (.int c2), t3, .val (.ref b1), .unset, .unset, .unset, .unset, .unset, .unset, .unset, .unset, .unset] [(.ref b1), (.ref b4), (.ref b4)])) rfl (by rw [hml]; rfl) (argsL := [(.ref b1)]) (rest := [(.ref b4)]) rfl (lenOf own_pd_4 rfl) rfl (by show 2 * 0 + _ ≤ _; exact Nat.le_of_eq rfl) (hb hby at_193)
          obtain ⟨H6, e6⟩ : ∃ z, T6.heap = z := ⟨_, rfl⟩
          rw [e6] at Q6
          obtain ⟨rfl, Nq6, Kq6, Fq6_secondsOfDay⟩ := Q6
          have N6 := Fr.app N2 Nq6
          have Zs6 := Nat.le_trans Zs4 Kq6.1
          have V2_7 := Arv.keep V2_5 Kq6 (ninS ne_b1_b4 nin0)
          have A4_8 := Exa.keep A4 Kq6
          have Kn4_9 := Kn.keep Kn4 Kq6
          refine Go.s (fun {t} => st6) ?_
          refine Go.s (fun kz => XS.astore X6.here hx rfl (hb hby at_196) rfl rfl (l' := #[.val (.int p0), .val (.int p1), .val (.int p2), .val (.int p3), .val (.long tt), .second, .val (.int (1 : Int32)), .val (.int s0), .val (.int s1), .val (.int c2), t3, .val (.ref b1), .val (.ref b4), .unset, .unset, .unset, .unset, .unset, .unset, .unset, .unset]) rfl kz) ?_
          refine Go.s (fun kz => XS.aload X6.here hx rfl (hb hby at_198) rfl rfl kz) ?_
          refine Go.s (fun kz => XT.lload X6.here hx rfl (hb hby at_200) rfl kz) ?_
          show Go p.tables e below P (T6.setTop (mkF m 202 #[.val (.int p0), .val (.int p1), .val (.int p2), .val (.int p3), .val (.long tt), .second, .val (.int (1 : Int32)), .val (.int s0), .val (.int s1), .val (.int c2), t3, .val (.ref b1), .val (.ref b4), .unset, .unset, .unset, .unset, .unset, .unset, .unset, .unset] [(.long tt), (.ref b4)]))
          obtain ⟨v10, T10, L10, X10, Q10, st10⟩ := Con.virtual (own_rm3_1 l Z a0 hw [] b4 b1 k1 tt s0 H6 n0 Zs6 V2_7 Fq6_secondsOfDay A4_8) X6 hx hZ (W := 0) hown (hw _ (List.mem_of_getElem? (i := 14) rfl)) (hw _ (List.mem_of_getElem? (i := 15) rfl)) (hw _ (List.mem_of_getElem? (i := 17) rfl)) (hw _ (List.mem_of_getElem? (i := 16) rfl)) (hw _ (List.mem_of_getElem? (i := 5) rfl)) (hw _ (List.mem_of_getElem? (i := 18) rfl)) (by decide) (by decide) (by decide) (by decide) (by decide) e6 (g := (mkF m 202 #[.val (.int p0), .val (.int p1), .val (.int p2), .val (.int p3), .val (.long tt), .second, .val (.int (1 : Int32)), .val (.int s0), .val (.int s1), .val (.int c2), t3, .val (.ref b1), .val (.ref b4), .unset, .unset, .unset, .unset, .unset, .unset, .unset, .unset] [(.long tt), (.ref b4)])) rfl (by rw [hml]; rfl) A4_8 (argsL := [(.long tt)]) (rest := []) rfl (lenOf own_pd_5 rfl) rfl (by show 2 * 0 + _ ≤ _; exact Nat.le_of_eq rfl) (hb hby at_202)
          obtain ⟨hd10, Nq10, e10⟩ := Q10
          have N10 := Fr.app N6 Nq10
          rcases hd10 with ⟨rfl, k0⟩ | ⟨rfl, k0, k1⟩ | ⟨rfl, k0, k1⟩
          · skip
            refine Go.s (fun {t} => st10) ?_
            show Go p.tables e below P (T10.setTop (mkF m 205 #[.val (.int p0), .val (.int p1), .val (.int p2), .val (.int p3), .val (.long tt), .second, .val (.int (1 : Int32)), .val (.int s0), .val (.int s1), .val (.int c2), t3, .val (.ref b1), .val (.ref b4), .unset, .unset, .unset, .unset, .unset, .unset, .unset, .unset] [(.long (((own_f4 tt (86400 : Int64)) + (1 : Int64)) * (86400 : Int64) + s0.toInt64))]))
            have hk := own_key tt
            have c2' : (2 : Int32).toInt = 2 := rfl
            have m0 := k0
            rw [Int32.lt_iff_toInt_lt, hk] at m0
            refine Go.s (fun kz => XT.lstore X10.here hx rfl (hb hby at_205) rfl (l' := #[.val (.int p0), .val (.int p1), .val (.int p2), .val (.int p3), .val (.long tt), .second, .val (.int (1 : Int32)), .val (.int s0), .val (.int s1), .val (.int c2), t3, .val (.ref b1), .val (.ref b4), .val (.long (((own_f4 tt (86400 : Int64)) + (1 : Int64)) * (86400 : Int64) + s0.toInt64)), .second, .unset, .unset, .unset, .unset, .unset, .unset]) rfl kz) ?_
            refine Go.s (fun kz => XT.lload X10.here hx rfl (hb hby at_207) rfl kz) ?_
            refine Go.s (fun kz => X10.ldc2J hx hown (mvT hZ (hw _ (List.mem_of_getElem? (i := 38) rfl))) rfl (hb hby at_209) kz) ?_
            show Go p.tables e below P (T10.setTop (mkF m 212 #[.val (.int p0), .val (.int p1), .val (.int p2), .val (.int p3), .val (.long tt), .second, .val (.int (1 : Int32)), .val (.int s0), .val (.int s1), .val (.int c2), t3, .val (.ref b1), .val (.ref b4), .val (.long (((own_f4 tt (86400 : Int64)) + (1 : Int64)) * (86400 : Int64) + s0.toInt64)), .second, .unset, .unset, .unset, .unset, .unset, .unset] [(.long (86400 : Int64)), (.long tt)]))
            refine Go.s (fun kz => lremM X10 hx rfl (hb hby at_212) rfl (by decide) kz) ?_
            refine Go.s (fun kz => XT.lstore X10.here hx rfl (hb hby at_213) rfl (l' := #[.val (.int p0), .val (.int p1), .val (.int p2), .val (.int p3), .val (.long tt), .second, .val (.int (1 : Int32)), .val (.int s0), .val (.int s1), .val (.int c2), t3, .val (.ref b1), .val (.ref b4), .val (.long (((own_f4 tt (86400 : Int64)) + (1 : Int64)) * (86400 : Int64) + s0.toInt64)), .second, .val (.long (tt % (86400 : Int64))), .second, .unset, .unset, .unset, .unset]) rfl kz) ?_
            show Go p.tables e below P (T10.setTop (mkF m 215 #[.val (.int p0), .val (.int p1), .val (.int p2), .val (.int p3), .val (.long tt), .second, .val (.int (1 : Int32)), .val (.int s0), .val (.int s1), .val (.int c2), t3, .val (.ref b1), .val (.ref b4), .val (.long (((own_f4 tt (86400 : Int64)) + (1 : Int64)) * (86400 : Int64) + s0.toInt64)), .second, .val (.long (tt % (86400 : Int64))), .second, .unset, .unset, .unset, .unset] []))
            have J230 : ∀ (rr : Int64) (hrr : rr.toInt = tt.toInt % 86400), Go p.tables e below P (T10.setTop (mkF m 230 #[.val (.int p0), .val (.int p1), .val (.int p2), .val (.int p3), .val (.long tt), .second, .val (.int (1 : Int32)), .val (.int s0), .val (.int s1), .val (.int c2), t3, .val (.ref b1), .val (.ref b4), .val (.long (((own_f4 tt (86400 : Int64)) + (1 : Int64)) * (86400 : Int64) + s0.toInt64)), .second, .val (.long rr), .second, .unset, .unset, .unset, .unset] [])) := by
              intro rr hrr
              refine Go.s (fun kz => XT.lload X10.here hx rfl (hb hby at_230) rfl kz) ?_
              refine Go.s (fun kz => XT.lload X10.here hx rfl (hb hby at_232) rfl kz) ?_
              refine Go.s (fun kz => XT.lsub X10.here hx rfl (hb hby at_234) rfl kz) ?_
              refine Go.s (fun kz => XT.lstore X10.here hx rfl (hb hby at_235) rfl (l' := #[.val (.int p0), .val (.int p1), .val (.int p2), .val (.int p3), .val (.long tt), .second, .val (.int (1 : Int32)), .val (.int s0), .val (.int s1), .val (.int c2), t3, .val (.ref b1), .val (.ref b4), .val (.long (((own_f4 tt (86400 : Int64)) + (1 : Int64)) * (86400 : Int64) + s0.toInt64)), .second, .val (.long rr), .second, .val (.long (tt - rr)), .second, .unset, .unset]) rfl kz) ?_
              refine Go.s (fun kz => XT.lload X10.here hx rfl (hb hby at_237) rfl kz) ?_
              refine Go.s (fun kz => XS.iload X10.here hx rfl (hb hby at_239) rfl kz) ?_
              show Go p.tables e below P (T10.setTop (mkF m 241 #[.val (.int p0), .val (.int p1), .val (.int p2), .val (.int p3), .val (.long tt), .second, .val (.int (1 : Int32)), .val (.int s0), .val (.int s1), .val (.int c2), t3, .val (.ref b1), .val (.ref b4), .val (.long (((own_f4 tt (86400 : Int64)) + (1 : Int64)) * (86400 : Int64) + s0.toInt64)), .second, .val (.long rr), .second, .val (.long (tt - rr)), .second, .unset, .unset] [(.int s0), (.long rr)]))
              refine Go.s (fun kz => XT.i2l X10.here hx rfl (hb hby at_241) rfl kz) ?_
              refine Go.s (fun kz => XT.lcmp X10.here hx rfl (hb hby at_242) rfl kz) ?_
              show Go p.tables e below P (T10.setTop (mkF m 243 #[.val (.int p0), .val (.int p1), .val (.int p2), .val (.int p3), .val (.long tt), .second, .val (.int (1 : Int32)), .val (.int s0), .val (.int s1), .val (.int c2), t3, .val (.ref b1), .val (.ref b4), .val (.long (((own_f4 tt (86400 : Int64)) + (1 : Int64)) * (86400 : Int64) + s0.toInt64)), .second, .val (.long rr), .second, .val (.long (tt - rr)), .second, .unset, .unset] [(.int (XT.cmpL rr s0.toInt64))]))
              refine Go.s (fun kz => XS.ifYes X10.here hx rfl (pc0 := 243) (pc' := 257) rfl (hb hby at_243) rfl (XT.ll_gt_t (by rw [Int64.lt_iff_toInt_lt, Jvm.Kit.i64_of_i32]; omega)) (by decide) (by decide) kz) ?_
              show Go p.tables e below P (T10.setTop (mkF m 257 #[.val (.int p0), .val (.int p1), .val (.int p2), .val (.int p3), .val (.long tt), .second, .val (.int (1 : Int32)), .val (.int s0), .val (.int s1), .val (.int c2), t3, .val (.ref b1), .val (.ref b4), .val (.long (((own_f4 tt (86400 : Int64)) + (1 : Int64)) * (86400 : Int64) + s0.toInt64)), .second, .val (.long rr), .second, .val (.long (tt - rr)), .second, .unset, .unset] []))
              refine Go.s (fun kz => XS.iload X10.here hx rfl (hb hby at_257) rfl kz) ?_
              refine Go.s (fun kz => XS.iconst X10.here hx rfl (hb hby at_259) kz) ?_
              show Go p.tables e below P (T10.setTop (mkF m 260 #[.val (.int p0), .val (.int p1), .val (.int p2), .val (.int p3), .val (.long tt), .second, .val (.int (1 : Int32)), .val (.int s0), .val (.int s1), .val (.int c2), t3, .val (.ref b1), .val (.ref b4), .val (.long (((own_f4 tt (86400 : Int64)) + (1 : Int64)) * (86400 : Int64) + s0.toInt64)), .second, .val (.long rr), .second, .val (.long (tt - rr)), .second, .unset, .unset] [(.int (2 : Int32)), (.int (1 : Int32))]))
              refine Go.s (fun kz => XS.icmpYes X10.here hx rfl (pc0 := 260) (pc' := 283) rfl (hb hby at_260) rfl (XT.ii_lt_t (by decide)) (by decide) (by decide) kz) ?_
              show Go p.tables e below P (T10.setTop (mkF m 283 #[.val (.int p0), .val (.int p1), .val (.int p2), .val (.int p3), .val (.long tt), .second, .val (.int (1 : Int32)), .val (.int s0), .val (.int s1), .val (.int c2), t3, .val (.ref b1), .val (.ref b4), .val (.long (((own_f4 tt (86400 : Int64)) + (1 : Int64)) * (86400 : Int64) + s0.toInt64)), .second, .val (.long rr), .second, .val (.long (tt - rr)), .second, .unset, .unset] []))
              refine Go.s (fun kz => XS.iload X10.here hx rfl (hb hby at_283) rfl kz) ?_
              refine Go.s (fun kz => XS.iconst X10.here hx rfl (hb hby at_285) kz) ?_
              show Go p.tables e below P (T10.setTop (mkF m 286 #[.val (.int p0), .val (.int p1), .val (.int p2), .val (.int p3), .val (.long tt), .second, .val (.int (1 : Int32)), .val (.int s0), .val (.int s1), .val (.int c2), t3, .val (.ref b1), .val (.ref b4), .val (.long (((own_f4 tt (86400 : Int64)) + (1 : Int64)) * (86400 : Int64) + s0.toInt64)), .second, .val (.long rr), .second, .val (.long (tt - rr)), .second, .unset, .unset] [(.int (3 : Int32)), (.int (1 : Int32))]))
              refine Go.s (fun kz => XS.icmpYes X10.here hx rfl (pc0 := 286) (pc' := 309) rfl (hb hby at_286) rfl (XT.ii_lt_t (by decide)) (by decide) (by decide) kz) ?_
              show Go p.tables e below P (T10.setTop (mkF m 309 #[.val (.int p0), .val (.int p1), .val (.int p2), .val (.int p3), .val (.long tt), .second, .val (.int (1 : Int32)), .val (.int s0), .val (.int s1), .val (.int c2), t3, .val (.ref b1), .val (.ref b4), .val (.long (((own_f4 tt (86400 : Int64)) + (1 : Int64)) * (86400 : Int64) + s0.toInt64)), .second, .val (.long rr), .second, .val (.long (tt - rr)), .second, .unset, .unset] []))
              refine Go.s (fun kz => XT.lload X10.here hx rfl (hb hby at_309) rfl kz) ?_
              refine Go.s (fun kz => X10.ldc2J hx hown (mvT hZ (hw _ (List.mem_of_getElem? (i := 38) rfl))) rfl (hb hby at_311) kz) ?_
              refine Go.s (fun kz => XT.ladd X10.here hx rfl (hb hby at_314) rfl kz) ?_
              refine Go.s (fun kz => XS.iload X10.here hx rfl (hb hby at_315) rfl kz) ?_
              refine Go.s (fun kz => XT.i2l X10.here hx rfl (hb hby at_317) rfl kz) ?_
              refine Go.s (fun kz => XT.ladd X10.here hx rfl (hb hby at_318) rfl kz) ?_
              show Go p.tables e below P (T10.setTop (mkF m 319 #[.val (.int p0), .val (.int p1), .val (.int p2), .val (.int p3), .val (.long tt), .second, .val (.int (1 : Int32)), .val (.int s0), .val (.int s1), .val (.int c2), t3, .val (.ref b1), .val (.ref b4), .val (.long (((own_f4 tt (86400 : Int64)) + (1 : Int64)) * (86400 : Int64) + s0.toInt64)), .second, .val (.long rr), .second, .val (.long (tt - rr)), .second, .unset, .unset] [(.long (((tt - rr) + (86400 : Int64)) + s0.toInt64))]))
              refine Go.s (fun kz => XT.lstore X10.here hx rfl (hb hby at_319) rfl (l' := #[.val (.int p0), .val (.int p1), .val (.int p2), .val (.int p3), .val (.long tt), .second, .val (.int (1 : Int32)), .val (.int s0), .val (.int s1), .val (.int c2), t3, .val (.ref b1), .val (.ref b4), .val (.long (((own_f4 tt (86400 : Int64)) + (1 : Int64)) * (86400 : Int64) + s0.toInt64)), .second, .val (.long rr), .second, .val (.long (tt - rr)), .second, .val (.long (((tt - rr) + (86400 : Int64)) + s0.toInt64)), .second]) rfl kz) ?_
              refine Go.s (fun kz => XT.lload X10.here hx rfl (hb hby at_321) rfl kz) ?_
              refine Go.s (fun kz => XT.lload X10.here hx rfl (hb hby at_323) rfl kz) ?_
              refine Go.s (fun kz => XT.lcmp X10.here hx rfl (hb hby at_325) rfl kz) ?_
              show Go p.tables e below P (T10.setTop (mkF m 326 #[.val (.int p0), .val (.int p1), .val (.int p2), .val (.int p3), .val (.long tt), .second, .val (.int (1 : Int32)), .val (.int s0), .val (.int s1), .val (.int c2), t3, .val (.ref b1), .val (.ref b4), .val (.long (((own_f4 tt (86400 : Int64)) + (1 : Int64)) * (86400 : Int64) + s0.toInt64)), .second, .val (.long rr), .second, .val (.long (tt - rr)), .second, .val (.long (((tt - rr) + (86400 : Int64)) + s0.toInt64)), .second] [(.int (XT.cmpL (((own_f4 tt (86400 : Int64)) + (1 : Int64)) * (86400 : Int64) + s0.toInt64) (((tt - rr) + (86400 : Int64)) + s0.toInt64)))]))
              refine Go.s (fun kz => XS.ifNo X10.here hx rfl (hb hby at_326) rfl (XT.ll_ne_f (own_got2 tt rr s0 hrr)) kz) ?_
              show Go p.tables e below P (T10.setTop (mkF m 329 #[.val (.int p0), .val (.int p1), .val (.int p2), .val (.int p3), .val (.long tt), .second, .val (.int (1 : Int32)), .val (.int s0), .val (.int s1), .val (.int c2), t3, .val (.ref b1), .val (.ref b4), .val (.long (((own_f4 tt (86400 : Int64)) + (1 : Int64)) * (86400 : Int64) + s0.toInt64)), .second, .val (.long rr), .second, .val (.long (tt - rr)), .second, .val (.long (((tt - rr) + (86400 : Int64)) + s0.toInt64)), .second] []))
              refine Go.s (fun kz => XS.iconst X10.here hx rfl (hb hby at_329) kz) ?_
              refine Go.s (fun kz => XS.goto X10.here hx rfl (pc0 := 330) (pc' := 334) rfl (hb hby at_330) (by decide) (by decide) kz) ?_
              show Go p.tables e below P (T10.setTop (mkF m 334 #[.val (.int p0), .val (.int p1), .val (.int p2), .val (.int p3), .val (.long tt), .second, .val (.int (1 : Int32)), .val (.int s0), .val (.int s1), .val (.int c2), t3, .val (.ref b1), .val (.ref b4), .val (.long (((own_f4 tt (86400 : Int64)) + (1 : Int64)) * (86400 : Int64) + s0.toInt64)), .second, .val (.long rr), .second, .val (.long (tt - rr)), .second, .val (.long (((tt - rr) + (86400 : Int64)) + s0.toInt64)), .second] [(.int (1 : Int32))]))
              exact Go.retZ X10 hx hlk hret (by decide) (hb hby at_334) (fun U hU hF => hP U _ _ ⟨rfl, N10⟩ ⟨hF.1, hF.2.1, hF.2.2.mono (by decide) (by decide)⟩)
            refine Go.s (fun kz => XT.lload X10.here hx rfl (hb hby at_215) rfl kz) ?_
            refine Go.s (fun kz => XT.lconst X10.here hx rfl (hb hby at_217) kz) ?_
            refine Go.s (fun kz => XT.lcmp X10.here hx rfl (hb hby at_218) rfl kz) ?_
            show Go p.tables e below P (T10.setTop (mkF m 219 #[.val (.int p0), .val (.int p1), .val (.int p2), .val (.int p3), .val (.long tt), .second, .val (.int (1 : Int32)), .val (.int s0), .val (.int s1), .val (.int c2), t3, .val (.ref b1), .val (.ref b4), .val (.long (((own_f4 tt (86400 : Int64)) + (1 : Int64)) * (86400 : Int64) + s0.toInt64)), .second, .val (.long (tt % (86400 : Int64))), .second, .unset, .unset, .unset, .unset] [(.int (XT.cmpL (tt % (86400 : Int64)) (0 : Int64)))]))
            by_cases hc219 : (tt % (86400 : Int64)) < (0 : Int64)
            · skip
              refine Go.s (fun kz => XS.ifNo X10.here hx rfl (hb hby at_219) rfl (XT.ll_ge_f hc219) kz) ?_
              show Go p.tables e below P (T10.setTop (mkF m 222 #[.val (.int p0), .val (.int p1), .val (.int p2), .val (.int p3), .val (.long tt), .second, .val (.int (1 : Int32)), .val (.int s0), .val (.int s1), .val (.int c2), t3, .val (.ref b1), .val (.ref b4), .val (.long (((own_f4 tt (86400 : Int64)) + (1 : Int64)) * (86400 : Int64) + s0.toInt64)), .second, .val (.long (tt % (86400 : Int64))), .second, .unset, .unset, .unset, .unset] []))
              refine Go.s (fun kz => XT.lload X10.here hx rfl (hb hby at_222) rfl kz) ?_
              refine Go.s (fun kz => X10.ldc2J hx hown (mvT hZ (hw _ (List.mem_of_getElem? (i := 38) rfl))) rfl (hb hby at_224) kz) ?_
              refine Go.s (fun kz => XT.ladd X10.here hx rfl (hb hby at_227) rfl kz) ?_
              refine Go.s (fun kz => XT.lstore X10.here hx rfl (hb hby at_228) rfl (l' := #[.val (.int p0), .val (.int p1), .val (.int p2), .val (.int p3), .val (.long tt), .second, .val (.int (1 : Int32)), .val (.int s0), .val (.int s1), .val (.int c2), t3, .val (.ref b1), .val (.ref b4), .val (.long (((own_f4 tt (86400 : Int64)) + (1 : Int64)) * (86400 : Int64) + s0.toInt64)), .second, .val (.long ((tt % (86400 : Int64)) + (86400 : Int64))), .second, .unset, .unset, .unset, .unset]) rfl kz) ?_
              show Go p.tables e below P (T10.setTop (mkF m 230 #[.val (.int p0), .val (.int p1), .val (.int p2), .val (.int p3), .val (.long tt), .second, .val (.int (1 : Int32)), .val (.int s0), .val (.int s1), .val (.int c2), t3, .val (.ref b1), .val (.ref b4), .val (.long (((own_f4 tt (86400 : Int64)) + (1 : Int64)) * (86400 : Int64) + s0.toInt64)), .second, .val (.long ((tt % (86400 : Int64)) + (86400 : Int64))), .second, .unset, .unset, .unset, .unset] []))
              exact J230 ((tt % (86400 : Int64)) + (86400 : Int64)) ((own_rr tt).2 hc219)
            · skip
              refine Go.s (fun kz => XS.ifYes X10.here hx rfl (pc0 := 219) (pc' := 230) rfl (hb hby at_219) rfl (XT.ll_ge_t hc219) (by decide) (by decide) kz) ?_
              show Go p.tables e below P (T10.setTop (mkF m 230 #[.val (.int p0), .val (.int p1), .val (.int p2), .val (.int p3), .val (.long tt), .second, .val (.int (1 : Int32)), .val (.int s0), .val (.int s1), .val (.int c2), t3, .val (.ref b1), .val (.ref b4), .val (.long (((own_f4 tt (86400 : Int64)) + (1 : Int64)) * (86400 : Int64) + s0.toInt64)), .second, .val (.long (tt % (86400 : Int64))), .second, .unset, .unset, .unset, .unset] []))
              exact J230 (tt % (86400 : Int64)) ((own_rr tt).1 hc219)
          · skip
            refine Go.s (fun {t} => st10) ?_
            show Go p.tables e below P (T10.setTop (mkF m 205 #[.val (.int p0), .val (.int p1), .val (.int p2), .val (.int p3), .val (.long tt), .second, .val (.int (1 : Int32)), .val (.int s0), .val (.int s1), .val (.int c2), t3, .val (.ref b1), .val (.ref b4), .unset, .unset, .unset, .unset, .unset, .unset, .unset, .unset] [(.long ((own_f4 tt (86400 : Int64)) * (86400 : Int64) + s0.toInt64))]))
            have hk := own_key tt
            have c2' : (2 : Int32).toInt = 2 := rfl
            have m0 := k0
            rw [Int32.lt_iff_toInt_lt, hk] at m0
            have m1 := k1
            rw [Int32.lt_iff_toInt_lt, hk] at m1
            refine Go.s (fun kz => XT.lstore X10.here hx rfl (hb hby at_205) rfl (l' := #[.val (.int p0), .val (.int p1), .val (.int p2), .val (.int p3), .val (.long tt), .second, .val (.int (1 : Int32)), .val (.int s0), .val (.int s1), .val (.int c2), t3, .val (.ref b1), .val (.ref b4), .val (.long ((own_f4 tt (86400 : Int64)) * (86400 : Int64) + s0.toInt64)), .second, .unset, .unset, .unset, .unset, .unset, .unset]) rfl kz) ?_
            refine Go.s (fun kz => XT.lload X10.here hx rfl (hb hby at_207) rfl kz) ?_
            refine Go.s (fun kz => X10.ldc2J hx hown (mvT hZ (hw _ (List.mem_of_getElem? (i := 38) rfl))) rfl (hb hby at_209) kz) ?_
            show Go p.tables e below P (T10.setTop (mkF m 212 #[.val (.int p0), .val (.int p1), .val (.int p2), .val (.int p3), .val (.long tt), .second, .val (.int (1 : Int32)), .val (.int s0), .val (.int s1), .val (.int c2), t3, .val (.ref b1), .val (.ref b4), .val (.long ((own_f4 tt (86400 : Int64)) * (86400 : Int64) + s0.toInt64)), .second, .unset, .unset, .unset, .unset, .unset, .unset] [(.long (86400 : Int64)), (.long tt)]))
            refine Go.s (fun kz => lremM X10 hx rfl (hb hby at_212) rfl (by decide) kz) ?_
            refine Go.s (fun kz => XT.lstore X10.here hx rfl (hb hby at_213) rfl (l' := #[.val (.int p0), .val (.int p1), .val (.int p2), .val (.int p3), .val (.long tt), .second, .val (.int (1 : Int32)), .val (.int s0), .val (.int s1), .val (.int c2), t3, .val (.ref b1), .val (.ref b4), .val (.long ((own_f4 tt (86400 : Int64)) * (86400 : Int64) + s0.toInt64)), .second, .val (.long (tt % (86400 : Int64))), .second, .unset, .unset, .unset, .unset]) rfl kz) ?_
            show Go p.tables e below P (T10.setTop (mkF m 215 #[.val (.int p0), .val (.int p1), .val (.int p2), .val (.int p3), .val (.long tt), .second, .val (.int (1 : Int32)), .val (.int s0), .val (.int s1), .val (.int c2), t3, .val (.ref b1), .val (.ref b4), .val (.long ((own_f4 tt (86400 : Int64)) * (86400 : Int64) + s0.toInt64)), .second, .val (.long (tt % (86400 : Int64))), .second, .unset, .unset, .unset, .unset] []))
            have J230 : ∀ (rr : Int64) (hrr : rr.toInt = tt.toInt % 86400), Go p.tables e below P (T10.setTop (mkF m 230 #[.val (.int p0), .val (.int p1), .val (.int p2), .val (.int p3), .val (.long tt), .second, .val (.int (1 : Int32)), .val (.int s0), .val (.int s1), .val (.int c2), t3, .val (.ref b1), .val (.ref b4), .val (.long ((own_f4 tt (86400 : Int64)) * (86400 : Int64) + s0.toInt64)), .second, .val (.long rr), .second, .unset, .unset, .unset, .unset] [])) := by
              intro rr hrr
              refine Go.s (fun kz => XT.lload X10.here hx rfl (hb hby at_230) rfl kz) ?_
              refine Go.s (fun kz => XT.lload X10.here hx rfl (hb hby at_232) rfl kz) ?_
              refine Go.s (fun kz => XT.lsub X10.here hx rfl (hb hby at_234) rfl kz) ?_
              refine Go.s (fun kz => XT.lstore X10.here hx rfl (hb hby at_235) rfl (l' := #[.val (.int p0), .val (.int p1), .val (.int p2), .val (.int p3), .val (.long tt), .second, .val (.int (1 : Int32)), .val (.int s0), .val (.int s1), .val (.int c2), t3, .val (.ref b1), .val (.ref b4), .val (.long ((own_f4 tt (86400 : Int64)) * (86400 : Int64) + s0.toInt64)), .second, .val (.long rr), .second, .val (.long (tt - rr)), .second, .unset, .unset]) rfl kz) ?_
              refine Go.s (fun kz => XT.lload X10.here hx rfl (hb hby at_237) rfl kz) ?_
              refine Go.s (fun kz => XS.iload X10.here hx rfl (hb hby at_239) rfl kz) ?_
              show Go p.tables e below P (T10.setTop (mkF m 241 #[.val (.int p0), .val (.int p1), .val (.int p2), .val (.int p3), .val (.long tt), .second, .val (.int (1 : Int32)), .val (.int s0), .val (.int s1), .val (.int c2), t3, .val (.ref b1), .val (.ref b4), .val (.long ((own_f4 tt (86400 : Int64)) * (86400 : Int64) + s0.toInt64)), .second, .val (.long rr), .second, .val (.long (tt - rr)), .second, .unset, .unset] [(.int s0), (.long rr)]))
              refine Go.s (fun kz => XT.i2l X10.here hx rfl (hb hby at_241) rfl kz) ?_
              refine Go.s (fun kz => XT.lcmp X10.here hx rfl (hb hby at_242) rfl kz) ?_
              show Go p.tables e below P (T10.setTop (mkF m 243 #[.val (.int p0), .val (.int p1), .val (.int p2), .val (.int p3), .val (.long tt), .second, .val (.int (1 : Int32)), .val (.int s0), .val (.int s1), .val (.int c2), t3, .val (.ref b1), .val (.ref b4), .val (.long ((own_f4 tt (86400 : Int64)) * (86400 : Int64) + s0.toInt64)), .second, .val (.long rr), .second, .val (.long (tt - rr)), .second, .unset, .unset] [(.int (XT.cmpL rr s0.toInt64))]))
              refine Go.s (fun kz => XS.ifNo X10.here hx rfl (hb hby at_243) rfl (XT.ll_gt_f (by rw [Int64.lt_iff_toInt_lt, Jvm.Kit.i64_of_i32]; omega)) kz) ?_
              show Go p.tables e below P (T10.setTop (mkF m 246 #[.val (.int p0), .val (.int p1), .val (.int p2), .val (.int p3), .val (.long tt), .second, .val (.int (1 : Int32)), .val (.int s0), .val (.int s1), .val (.int c2), t3, .val (.ref b1), .val (.ref b4), .val (.long ((own_f4 tt (86400 : Int64)) * (86400 : Int64) + s0.toInt64)), .second, .val (.long rr), .second, .val (.long (tt - rr)), .second, .unset, .unset] []))
              refine Go.s (fun kz => XT.lload X10.here hx rfl (hb hby at_246) rfl kz) ?_
              refine Go.s (fun kz => XS.iload X10.here hx rfl (hb hby at_248) rfl kz) ?_
              refine Go.s (fun kz => XT.i2l X10.here hx rfl (hb hby at_250) rfl kz) ?_
              refine Go.s (fun kz => XT.ladd X10.here hx rfl (hb hby at_251) rfl kz) ?_
              refine Go.s (fun kz => XT.lstore X10.here hx rfl (hb hby at_252) rfl (l' := #[.val (.int p0), .val (.int p1), .val (.int p2), .val (.int p3), .val (.long tt), .second, .val (.int (1 : Int32)), .val (.int s0), .val (.int s1), .val (.int c2), t3, .val (.ref b1), .val (.ref b4), .val (.long ((own_f4 tt (86400 : Int64)) * (86400 : Int64) + s0.toInt64)), .second, .val (.long rr), .second, .val (.long (tt - rr)), .second, .val (.long ((tt - rr) + s0.toInt64)), .second]) rfl kz) ?_
              refine Go.s (fun kz => XS.goto X10.here hx rfl (pc0 := 254) (pc' := 321) rfl (hb hby at_254) (by decide) (by decide) kz) ?_
              show Go p.tables e below P (T10.setTop (mkF m 321 #[.val (.int p0), .val (.int p1), .val (.int p2), .val (.int p3), .val (.long tt), .second, .val (.int (1 : Int32)), .val (.int s0), .val (.int s1), .val (.int c2), t3, .val (.ref b1), .val (.ref b4), .val (.long ((own_f4 tt (86400 : Int64)) * (86400 : Int64) + s0.toInt64)), .second, .val (.long rr), .second, .val (.long (tt - rr)), .second, .val (.long ((tt - rr) + s0.toInt64)), .second] []))
              refine Go.s (fun kz => XT.lload X10.here hx rfl (hb hby at_321) rfl kz) ?_
              show Go p.tables e below P (T10.setTop (mkF m 323 #[.val (.int p0), .val (.int p1), .val (.int p2), .val (.int p3), .val (.long tt), .second, .val (.int (1 : Int32)), .val (.int s0), .val (.int s1), .val (.int c2), t3, .val (.ref b1), .val (.ref b4), .val (.long ((own_f4 tt (86400 : Int64)) * (86400 : Int64) + s0.toInt64)), .second, .val (.long rr), .second, .val (.long (tt - rr)), .second, .val (.long ((tt - rr) + s0.toInt64)), .second] [(.long ((own_f4 tt (86400 : Int64)) * (86400 : Int64) + s0.toInt64))]))
              refine Go.s (fun kz => XT.lload X10.here hx rfl (hb hby at_323) rfl kz) ?_
              refine Go.s (fun kz => XT.lcmp X10.here hx rfl (hb hby at_325) rfl kz) ?_
              show Go p.tables e below P (T10.setTop (mkF m 326 #[.val (.int p0), .val (.int p1), .val (.int p2), .val (.int p3), .val (.long tt), .second, .val (.int (1 : Int32)), .val (.int s0), .val (.int s1), .val (.int c2), t3, .val (.ref b1), .val (.ref b4), .val (.long ((own_f4 tt (86400 : Int64)) * (86400 : Int64) + s0.toInt64)), .second, .val (.long rr), .second, .val (.long (tt - rr)), .second, .val (.long ((tt - rr) + s0.toInt64)), .second] [(.int (XT.cmpL ((own_f4 tt (86400 : Int64)) * (86400 : Int64) + s0.toInt64) ((tt - rr) + s0.toInt64)))]))
              refine Go.s (fun kz => XS.ifNo X10.here hx rfl (hb hby at_326) rfl (XT.ll_ne_f (own_got tt rr s0 hrr)) kz) ?_
              show Go p.tables e below P (T10.setTop (mkF m 329 #[.val (.int p0), .val (.int p1), .val (.int p2), .val (.int p3), .val (.long tt), .second, .val (.int (1 : Int32)), .val (.int s0), .val (.int s1), .val (.int c2), t3, .val (.ref b1), .val (.ref b4), .val (.long ((own_f4 tt (86400 : Int64)) * (86400 : Int64) + s0.toInt64)), .second, .val (.long rr), .second, .val (.long (tt - rr)), .second, .val (.long ((tt - rr) + s0.toInt64)), .second] []))
              refine Go.s (fun kz => XS.iconst X10.here hx rfl (hb hby at_329) kz) ?_
              refine Go.s (fun kz => XS.goto X10.here hx rfl (pc0 := 330) (pc' := 334) rfl (hb hby at_330) (by decide) (by decide) kz) ?_
              show Go p.tables e below P (T10.setTop (mkF m 334 #[.val (.int p0), .val (.int p1), .val (.int p2), .val (.int p3), .val (.long tt), .second, .val (.int (1 : Int32)), .val (.int s0), .val (.int s1), .val (.int c2), t3, .val (.ref b1), .val (.ref b4), .val (.long ((own_f4 tt (86400 : Int64)) * (86400 : Int64) + s0.toInt64)), .second, .val (.long rr), .second, .val (.long (tt - rr)), .second, .val (.long ((tt - rr) + s0.toInt64)), .second] [(.int (1 : Int32))]))
              exact Go.retZ X10 hx hlk hret (by decide) (hb hby at_334) (fun U hU hF => hP U _ _ ⟨rfl, N10⟩ ⟨hF.1, hF.2.1, hF.2.2.mono (by decide) (by decide)⟩)
            refine Go.s (fun kz => XT.lload X10.here hx rfl (hb hby at_215) rfl kz) ?_
            refine Go.s (fun kz => XT.lconst X10.here hx rfl (hb hby at_217) kz) ?_
            refine Go.s (fun kz => XT.lcmp X10.here hx rfl (hb hby at_218) rfl kz) ?_
            show Go p.tables e below P (T10.setTop (mkF m 219 #[.val (.int p0), .val (.int p1), .val (.int p2), .val (.int p3), .val (.long tt), .second, .val (.int (1 : Int32)), .val (.int s0), .val (.int s1), .val (.int c2), t3, .val (.ref b1), .val (.ref b4), .val (.long ((own_f4 tt (86400 : Int64)) * (86400 : Int64) + s0.toInt64)), .second, .val (.long (tt % (86400 : Int64))), .second, .unset, .unset, .unset, .unset] [(.int (XT.cmpL (tt % (86400 : Int64)) (0 : Int64)))]))
            by_cases hc219 : (tt % (86400 : Int64)) < (0 : Int64)
            · skip
              refine Go.s (fun kz => XS.ifNo X10.here hx rfl (hb hby at_219) rfl (XT.ll_ge_f hc219) kz) ?_
              show Go p.tables e below P (T10.setTop (mkF m 222 #[.val (.int p0), .val (.int p1), .val (.int p2), .val (.int p3), .val (.long tt), .second, .val (.int (1 : Int32)), .val (.int s0), .val (.int s1), .val (.int c2), t3, .val (.ref b1), .val (.ref b4), .val (.long ((own_f4 tt (86400 : Int64)) * (86400 : Int64) + s0.toInt64)), .second, .val (.long (tt % (86400 : Int64))), .second, .unset, .unset, .unset, .unset] []))
              refine Go.s (fun kz => XT.lload X10.here hx rfl (hb hby at_222) rfl kz) ?_
              refine Go.s (fun kz => X10.ldc2J hx hown (mvT hZ (hw _ (List.mem_of_getElem? (i := 38) rfl))) rfl (hb hby at_224) kz) ?_
              refine Go.s (fun kz => XT.ladd X10.here hx rfl (hb hby at_227) rfl kz) ?_
              refine Go.s (fun kz => XT.lstore X10.here hx rfl (hb hby at_228) rfl (l' := #[.val (.int p0), .val (.int p1), .val (.int p2), .val (.int p3), .val (.long tt), .second, .val (.int (1 : Int32)), .val (.int s0), .val (.int s1), .val (.int c2), t3, .val (.ref b1), .val (.ref b4), .val (.long ((own_f4 tt (86400 : Int64)) * (86400 : Int64) + s0.toInt64)), .second, .val (.long ((tt % (86400 : Int64)) + (86400 : Int64))), .second, .unset, .unset, .unset, .unset]) rfl kz) ?_
              show Go p.tables e below P (T10.setTop (mkF m 230 #[.val (.int p0), .val (.int p1), .val (.int p2), .val (.int p3), .val (.long tt), .second, .val (.int (1 : Int32)), .val (.int s0), .val (.int s1), .val (.int c2), t3, .val (.ref b1), .val (.ref b4), .val (.long ((own_f4 tt (86400 : Int64)) * (86400 : Int64) + s0.toInt64)), .second, .val (.long ((tt % (86400 : Int64)) + (86400 : Int64))), .second, .unset, .unset, .unset, .unset] []))
              exact J230 ((tt % (86400 : Int64)) + (86400 : Int64)) ((own_rr tt).2 hc219)
            · skip
              refine Go.s (fun kz => XS.ifYes X10.here hx rfl (pc0 := 219) (pc' := 230) rfl (hb hby at_219) rfl (XT.ll_ge_t hc219) (by decide) (by decide) kz) ?_
              show Go p.tables e below P (T10.setTop (mkF m 230 #[.val (.int p0), .val (.int p1), .val (.int p2), .val (.int p3), .val (.long tt), .second, .val (.int (1 : Int32)), .val (.int s0), .val (.int s1), .val (.int c2), t3, .val (.ref b1), .val (.ref b4), .val (.long ((own_f4 tt (86400 : Int64)) * (86400 : Int64) + s0.toInt64)), .second, .val (.long (tt % (86400 : Int64))), .second, .unset, .unset, .unset, .unset] []))
              exact J230 (tt % (86400 : Int64)) ((own_rr tt).1 hc219)
          · skip
            refine Go.s (fun {t} => st10) ?_
            show Go p.tables e below P (T10.setTop (mkF m 205 #[.val (.int p0), .val (.int p1), .val (.int p2), .val (.int p3), .val (.long tt), .second, .val (.int (1 : Int32)), .val (.int s0), .val (.int s1), .val (.int c2), t3, .val (.ref b1), .val (.ref b4), .unset, .unset, .unset, .unset, .unset, .unset, .unset, .unset] [(.long ((own_f4 tt (86400 : Int64)) * (86400 : Int64) + s0.toInt64))]))
            have hk := own_key tt
            have c2' : (2 : Int32).toInt = 2 := rfl
            have m0 := k0
            rw [Int32.lt_iff_toInt_lt, hk] at m0
            have m1 := k1
            rw [Int32.lt_iff_toInt_lt, hk] at m1
            refine Go.s (fun kz => XT.lstore X10.here hx rfl (hb hby at_205) rfl (l' := #[.val (.int p0), .val (.int p1), .val (.int p2), .val (.int p3), .val (.long tt), .second, .val (.int (1 : Int32)), .val (.int s0), .val (.int s1), .val (.int c2), t3, .val (.ref b1), .val (.ref b4), .val (.long ((own_f4 tt (86400 : Int64)) * (86400 : Int64) + s0.toInt64)), .second, .unset, .unset, .unset, .unset, .unset, .unset]) rfl kz) ?_
            refine Go.s (fun kz => XT.lload X10.here hx rfl (hb hby at_207) rfl kz) ?_
            refine Go.s (fun kz => X10.ldc2J hx hown (mvT hZ (hw _ (List.mem_of_getElem? (i := 38) rfl))) rfl (hb hby at_209) kz) ?_
            show Go p.tables e below P (T10.setTop (mkF m 212 #[.val (.int p0), .val (.int p1), .val (.int p2), .val (.int p3), .val (.long tt), .second, .val (.int (1 : Int32)), .val (.int s0), .val (.int s1), .val (.int c2), t3, .val (.ref b1), .val (.ref b4), .val (.long ((own_f4 tt (86400 : Int64)) * (86400 : Int64) + s0.toInt64)), .second, .unset, .unset, .unset, .unset, .unset, .unset] [(.long (86400 : Int64)), (.long tt)]))
            refine Go.s (fun kz => lremM X10 hx rfl (hb hby at_212) rfl (by decide) kz) ?_
            refine Go.s (fun kz => XT.lstore X10.here hx rfl (hb hby at_213) rfl (l' := #[.val (.int p0), .val (.int p1), .val (.int p2), .val (.int p3), .val (.long tt), .second, .val (.int (1 : Int32)), .val (.int s0), .val (.int s1), .val (.int c2), t3, .val (.ref b1), .val (.ref b4), .val (.long ((own_f4 tt (86400 : Int64)) * (86400 : Int64) + s0.toInt64)), .second, .val (.long (tt % (86400 : Int64))), .second, .unset, .unset, .unset, .unset]) rfl kz) ?_
            show Go p.tables e below P (T10.setTop (mkF m 215 #[.val (.int p0), .val (.int p1), .val (.int p2), .val (.int p3), .val (.long tt), .second, .val (.int (1 : Int32)), .val (.int s0), .val (.int s1), .val (.int c2), t3, .val (.ref b1), .val (.ref b4), .val (.long ((own_f4 tt (86400 : Int64)) * (86400 : Int64) + s0.toInt64)), .second, .val (.long (tt % (86400 : Int64))), .second, .unset, .unset, .unset, .unset] []))
            have J230 : ∀ (rr : Int64) (hrr : rr.toInt = tt.toInt % 86400), Go p.tables e below P (T10.setTop (mkF m 230 #[.val (.int p0), .val (.int p1), .val (.int p2), .val (.int p3), .val (.long tt), .second, .val (.int (1 : Int32)), .val (.int s0), .val (.int s1), .val (.int c2), t3, .val (.ref b1), .val (.ref b4), .val (.long ((own_f4 tt (86400 : Int64)) * (86400 : Int64) + s0.toInt64)), .second, .val (.long rr), .second, .unset, .unset, .unset, .unset] [])) := by
              intro rr hrr
              refine Go.s (fun kz => XT.lload X10.here hx rfl (hb hby at_230) rfl kz) ?_
              refine Go.s (fun kz => XT.lload X10.here hx rfl (hb hby at_232) rfl kz) ?_
              refine Go.s (fun kz => XT.lsub X10.here hx rfl (hb hby at_234) rfl kz) ?_
              refine Go.s (fun kz => XT.lstore X10.here hx rfl (hb hby at_235) rfl (l' := #[.val (.int p0), .val (.int p1), .val (.int p2), .val (.int p3), .val (.long tt), .second, .val (.int (1 : Int32)), .val (.int s0), .val (.int s1), .val (.int c2), t3, .val (.ref b1), .val (.ref b4), .val (.long ((own_f4 tt (86400 : Int64)) * (86400 : Int64) + s0.toInt64)), .second, .val (.long rr), .second, .val (.long (tt - rr)), .second, .unset, .unset]) rfl kz) ?_
              refine Go.s (fun kz => XT.lload X10.here hx rfl (hb hby at_237) rfl kz) ?_
              refine Go.s (fun kz => XS.iload X10.here hx rfl (hb hby at_239) rfl kz) ?_
              show Go p.tables e below P (T10.setTop (mkF m 241 #[.val (.int p0), .val (.int p1), .val (.int p2), .val (.int p3), .val (.long tt), .second, .val (.int (1 : Int32)), .val (.int s0), .val (.int s1), .val (.int c2), t3, .val (.ref b1), .val (.ref b4), .val (.long ((own_f4 tt (86400 : Int64)) * (86400 : Int64) + s0.toInt64)), .second, .val (.long rr), .second, .val (.long (tt - rr)), .second, .unset, .unset] [(.int s0), (.long rr)]))
              refine Go.s (fun kz => XT.i2l X10.here hx rfl (hb hby at_241) rfl kz) ?_
              refine Go.s (fun kz => XT.lcmp X10.here hx rfl (hb hby at_242) rfl kz) ?_
              show Go p.tables e below P (T10.setTop (mkF m 243 #[.val (.int p0), .val (.int p1), .val (.int p2), .val (.int p3), .val (.long tt), .second, .val (.int (1 : Int32)), .val (.int s0), .val (.int s1), .val (.int c2), t3, .val (.ref b1), .val (.ref b4), .val (.long ((own_f4 tt (86400 : Int64)) * (86400 : Int64) + s0.toInt64)), .second, .val (.long rr), .second, .val (.long (tt - rr)), .second, .unset, .unset] [(.int (XT.cmpL rr s0.toInt64))]))
              refine Go.s (fun kz => XS.ifNo X10.here hx rfl (hb hby at_243) rfl (XT.ll_gt_f (by rw [Int64.lt_iff_toInt_lt, Jvm.Kit.i64_of_i32]; omega)) kz) ?_
              show Go p.tables e below P (T10.setTop (mkF m 246 #[.val (.int p0), .val (.int p1), .val (.int p2), .val (.int p3), .val (.long tt), .second, .val (.int (1 : Int32)), .val (.int s0), .val (.int s1), .val (.int c2), t3, .val (.ref b1), .val (.ref b4), .val (.long ((own_f4 tt (86400 : Int64)) * (86400 : Int64) + s0.toInt64)), .second, .val (.long rr), .second, .val (.long (tt - rr)), .second, .unset, .unset] []))
              refine Go.s (fun kz => XT.lload X10.here hx rfl (hb hby at_246) rfl kz) ?_
              refine Go.s (fun kz => XS.iload X10.here hx rfl (hb hby at_248) rfl kz) ?_
              refine Go.s (fun kz => XT.i2l X10.here hx rfl (hb hby at_250) rfl kz) ?_
              refine Go.s (fun kz => XT.ladd X10.here hx rfl (hb hby at_251) rfl kz) ?_
              refine Go.s (fun kz => XT.lstore X10.here hx rfl (hb hby at_252) rfl (l' := #[.val (.int p0), .val (.int p1), .val (.int p2), .val (.int p3), .val (.long tt), .second, .val (.int (1 : Int32)), .val (.int s0), .val (.int s1), .val (.int c2), t3, .val (.ref b1), .val (.ref b4), .val (.long ((own_f4 tt (86400 : Int64)) * (86400 : Int64) + s0.toInt64)), .second, .val (.long rr), .second, .val (.long (tt - rr)), .second, .val (.long ((tt - rr) + s0.toInt64)), .second]) rfl kz) ?_
              refine Go.s (fun kz => XS.goto X10.here hx rfl (pc0 := 254) (pc' := 321) rfl (hb hby at_254) (by decide) (by decide) kz) ?_
              show Go p.tables e below P (T10.setTop (mkF m 321 #[.val (.int p0), .val (.int p1), .val (.int p2), .val (.int p3), .val (.long tt), .second, .val (.int (1 : Int32)), .val (.int s0), .val (.int s1), .val (.int c2), t3, .val (.ref b1), .val (.ref b4), .val (.long ((own_f4 tt (86400 : Int64)) * (86400 : Int64) + s0.toInt64)), .second, .val (.long rr), .second, .val (.long (tt - rr)), .second, .val (.long ((tt - rr) + s0.toInt64)), .second] []))
              refine Go.s (fun kz => XT.lload X10.here hx rfl (hb hby at_321) rfl kz) ?_
              show Go p.tables e below P (T10.setTop (mkF m 323 #[.val (.int p0), .val (.int p1), .val (.int p2), .val (.int p3), .val (.long tt), .second, .val (.int (1 : Int32)), .val (.int s0), .val (.int s1), .val (.int c2), t3, .val (.ref b1), .val (.ref b4), .val (.long ((own_f4 tt (86400 : Int64)) * (86400 : Int64) + s0.toInt64)), .second, .val (.long rr), .second, .val (.long (tt - rr)), .second, .val (.long ((tt - rr) + s0.toInt64)), .second] [(.long ((own_f4 tt (86400 : Int64)) * (86400 : Int64) + s0.toInt64))]))
              refine Go.s (fun kz => XT.lload X10.here hx rfl (hb hby at_323) rfl kz) ?_
              refine Go.s (fun kz => XT.lcmp X10.here hx rfl (hb hby at_325) rfl kz) ?_
              show Go p.tables e below P (T10.setTop (mkF m 326 #[.val (.int p0), .val (.int p1), .val (.int p2), .val (.int p3), .val (.long tt), .second, .val (.int (1 : Int32)), .val (.int s0), .val (.int s1), .val (.int c2), t3, .val (.ref b1), .val (.ref b4), .val (.long ((own_f4 tt (86400 : Int64)) * (86400 : Int64) + s0.toInt64)), .second, .val (.long rr), .second, .val (.long (tt - rr)), .second, .val (.long ((tt - rr) + s0.toInt64)), .second] [(.int (XT.cmpL ((own_f4 tt (86400 : Int64)) * (86400 : Int64) + s0.toInt64) ((tt - rr) + s0.toInt64)))]))
              refine Go.s (fun kz => XS.ifNo X10.here hx rfl (hb hby at_326) rfl (XT.ll_ne_f (own_got tt rr s0 hrr)) kz) ?_
              show Go p.tables e below P (T10.setTop (mkF m 329 #[.val (.int p0), .val (.int p1), .val (.int p2), .val (.int p3), .val (.long tt), .second, .val (.int (1 : Int32)), .val (.int s0), .val (.int s1), .val (.int c2), t3, .val (.ref b1), .val (.ref b4), .val (.long ((own_f4 tt (86400 : Int64)) * (86400 : Int64) + s0.toInt64)), .second, .val (.long rr), .second, .val (.long (tt - rr)), .second, .val (.long ((tt - rr) + s0.toInt64)), .second] []))
              refine Go.s (fun kz => XS.iconst X10.here hx rfl (hb hby at_329) kz) ?_
              refine Go.s (fun kz => XS.goto X10.here hx rfl (pc0 := 330) (pc' := 334) rfl (hb hby at_330) (by decide) (by decide) kz) ?_
              show Go p.tables e below P (T10.setTop (mkF m 334 #[.val (.int p0), .val (.int p1), .val (.int p2), .val (.int p3), .val (.long tt), .second, .val (.int (1 : Int32)), .val (.int s0), .val (.int s1), .val (.int c2), t3, .val (.ref b1), .val (.ref b4), .val (.long ((own_f4 tt (86400 : Int64)) * (86400 : Int64) + s0.toInt64)), .second, .val (.long rr), .second, .val (.long (tt - rr)), .second, .val (.long ((tt - rr) + s0.toInt64)), .second] [(.int (1 : Int32))]))
              exact Go.retZ X10 hx hlk hret (by decide) (hb hby at_334) (fun U hU hF => hP U _ _ ⟨rfl, N10⟩ ⟨hF.1, hF.2.1, hF.2.2.mono (by decide) (by decide)⟩)
            refine Go.s (fun kz => XT.lload X10.here hx rfl (hb hby at_215) rfl kz) ?_
            refine Go.s (fun kz => XT.lconst X10.here hx rfl (hb hby at_217) kz) ?_
            refine Go.s (fun kz => XT.lcmp X10.here hx rfl (hb hby at_218) rfl kz) ?_
            show Go p.tables e below P (T10.setTop (mkF m 219 #[.val (.int p0), .val (.int p1), .val (.int p2), .val (.int p3), .val (.long tt), .second, .val (.int (1 : Int32)), .val (.int s0), .val (.int s1), .val (.int c2), t3, .val (.ref b1), .val (.ref b4), .val (.long ((own_f4 tt (86400 : Int64)) * (86400 : Int64) + s0.toInt64)), .second, .val (.long (tt % (86400 : Int64))), .second, .unset, .unset, .unset, .unset] [(.int (XT.cmpL (tt % (86400 : Int64)) (0 : Int64)))]))
            by_cases hc219 : (tt % (86400 : Int64)) < (0 : Int64)
            · skip
              refine Go.s (fun kz => XS.ifNo X10.here hx rfl (hb hby at_219) rfl (XT.ll_ge_f hc219) kz) ?_
              show Go p.tables e below P (T10.setTop (mkF m 222 #[.val (.int p0), .val (.int p1), .val (.int p2), .val (.int p3), .val (.long tt), .second, .val (.int (1 : Int32)), .val (.int s0), .val (.int s1), .val (.int c2), t3, .val (.ref b1), .val (.ref b4), .val (.long ((own_f4 tt (86400 : Int64)) * (86400 : Int64) + s0.toInt64)), .second, .val (.long (tt % (86400 : Int64))), .second, .unset, .unset, .unset, .unset] []))
              refine Go.s (fun kz => XT.lload X10.here hx rfl (hb hby at_222) rfl kz) ?_
              refine Go.s (fun kz => X10.ldc2J hx hown (mvT hZ (hw _ (List.mem_of_getElem? (i := 38) rfl))) rfl (hb hby at_224) kz) ?_
              refine Go.s (fun kz => XT.ladd X10.here hx rfl (hb hby at_227) rfl kz) ?_
              refine Go.s (fun kz => XT.lstore X10.here hx rfl (hb hby at_228) rfl (l' := #[.val (.int p0), .val (.int p1), .val (.int p2), .val (.int p3), .val (.long tt), .second, .val (.int (1 : Int32)), .val (.int s0), .val (.int s1), .val (.int c2), t3, .val (.ref b1), .val (.ref b4), .val (.long ((own_f4 tt (86400 : Int64)) * (86400 : Int64) + s0.toInt64)), .second, .val (.long ((tt % (86400 : Int64)) + (86400 : Int64))), .second, .unset, .unset, .unset, .unset]) rfl kz) ?_
              show Go p.tables e below P (T10.setTop (mkF m 230 #[.val (.int p0), .val (.int p1), .val (.int p2), .val (.int p3), .val (.long tt), .second, .val (.int (1 : Int32)), .val (.int s0), .val (.int s1), .val (.int c2), t3, .val (.ref b1), .val (.ref b4), .val (.long ((own_f4 tt (86400 : Int64)) * (86400 : Int64) + s0.toInt64)), .second, .val (.long ((tt % (86400 : Int64)) + (86400 : Int64))), .second, .unset, .unset, .unset, .unset] []))
              exact J230 ((tt % (86400 : Int64)) + (86400 : Int64)) ((own_rr tt).2 hc219)
            · skip
              refine Go.s (fun kz => XS.ifYes X10.here hx rfl (pc0 := 219) (pc' := 230) rfl (hb hby at_219) rfl (XT.ll_ge_t hc219) (by decide) (by decide) kz) ?_
              show Go p.tables e below P (T10.setTop (mkF m 230 #[.val (.int p0), .val (.int p1), .val (.int p2), .val (.int p3), .val (.long tt), .second, .val (.int (1 : Int32)), .val (.int s0), .val (.int s1), .val (.int c2), t3, .val (.ref b1), .val (.ref b4), .val (.long ((own_f4 tt (86400 : Int64)) * (86400 : Int64) + s0.toInt64)), .second, .val (.long (tt % (86400 : Int64))), .second, .unset, .unset, .unset, .unset] []))
              exact J230 (tt % (86400 : Int64)) ((own_rr tt).1 hc219)
        · skip
          show Go p.tables e below P (s₁.setTop (mkF m 94 #[.val (.int p0), .val (.int p1), .val (.int p2), .val (.int p3), .val (.long tt), .second, .val (.int (2 : Int32)), .val (.int s0), .val (.int s1), .val (.int c2), t3, .unset, .unset, .unset, .unset, .unset, .unset, .unset, .unset, .unset, .unset] []))
          refine Go.s (fun kz => XS.iload X0.here hx rfl (hb hby at_94) rfl kz) ?_
          refine Go.s (fun kz => XS.iconst X0.here hx rfl (hb hby at_96) kz) ?_
          show Go p.tables e below P (s₁.setTop (mkF m 97 #[.val (.int p0), .val (.int p1), .val (.int p2), .val (.int p3), .val (.long tt), .second, .val (.int (2 : Int32)), .val (.int s0), .val (.int s1), .val (.int c2), t3, .unset, .unset, .unset, .unset, .unset, .unset, .unset, .unset, .unset, .unset] [(.int (2 : Int32)), (.int (2 : Int32))]))
          refine Go.s (fun kz => XS.icmpNo X0.here hx rfl (hb hby at_97) rfl (XT.ii_lt_f (by decide)) kz) ?_
          show Go p.tables e below P (s₁.setTop (mkF m 100 #[.val (.int p0), .val (.int p1), .val (.int p2), .val (.int p3), .val (.long tt), .second, .val (.int (2 : Int32)), .val (.int s0), .val (.int s1), .val (.int c2), t3, .unset, .unset, .unset, .unset, .unset, .unset, .unset, .unset, .unset, .unset] []))
          refine Go.s (fun kz => XS.iload X0.here hx rfl (hb hby at_100) rfl kz) ?_
          refine Go.s (fun kz => XS.iload X0.here hx rfl (hb hby at_102) rfl kz) ?_
          show Go p.tables e below P (s₁.setTop (mkF m 104 #[.val (.int p0), .val (.int p1), .val (.int p2), .val (.int p3), .val (.long tt), .second, .val (.int (2 : Int32)), .val (.int s0), .val (.int s1), .val (.int c2), t3, .unset, .unset, .unset, .unset, .unset, .unset, .unset, .unset, .unset, .unset] [(.int s1), (.int s0)]))
          by_cases hc104 : s0 = s1
          · skip
            refine Go.s (fun kz => XS.icmpNo X0.here hx rfl (hb hby at_104) rfl (XT.ii_ne_f hc104) kz) ?_
            show Go p.tables e below P (s₁.setTop (mkF m 107 #[.val (.int p0), .val (.int p1), .val (.int p2), .val (.int p3), .val (.long tt), .second, .val (.int (2 : Int32)), .val (.int s0), .val (.int s1), .val (.int c2), t3, .unset, .unset, .unset, .unset, .unset, .unset, .unset, .unset, .unset, .unset] []))
            refine Go.s (fun kz => XS.iconst X0.here hx rfl (hb hby at_107) kz) ?_
            show Go p.tables e below P (s₁.setTop (mkF m 108 #[.val (.int p0), .val (.int p1), .val (.int p2), .val (.int p3), .val (.long tt), .second, .val (.int (2 : Int32)), .val (.int s0), .val (.int s1), .val (.int c2), t3, .unset, .unset, .unset, .unset, .unset, .unset, .unset, .unset, .unset, .unset] [(.int (1 : Int32))]))
            exact Go.retZ X0 hx hlk hret (by decide) (hb hby at_108) (fun U hU hF => hP U _ _ ⟨rfl, N0⟩ ⟨hF.1, hF.2.1, hF.2.2.mono (by decide) (by decide)⟩)
          · skip
            refine Go.s (fun kz => XS.icmpYes X0.here hx rfl (pc0 := 104) (pc' := 109) rfl (hb hby at_104) rfl (XT.ii_ne_t hc104) (by decide) (by decide) kz) ?_
            show Go p.tables e below P (s₁.setTop (mkF m 109 #[.val (.int p0), .val (.int p1), .val (.int p2), .val (.int p3), .val (.long tt), .second, .val (.int (2 : Int32)), .val (.int s0), .val (.int s1), .val (.int c2), t3, .unset, .unset, .unset, .unset, .unset, .unset, .unset, .unset, .unset, .unset] []))
            refine Go.s (fun kz => XS.iload X0.here hx rfl (hb hby at_109) rfl kz) ?_
            refine Go.s (fun kz => XS.iconst X0.here hx rfl (hb hby at_111) kz) ?_
            show Go p.tables e below P (s₁.setTop (mkF m 112 #[.val (.int p0), .val (.int p1), .val (.int p2), .val (.int p3), .val (.long tt), .second, .val (.int (2 : Int32)), .val (.int s0), .val (.int s1), .val (.int c2), t3, .unset, .unset, .unset, .unset, .unset, .unset, .unset, .unset, .unset, .unset] [(.int (3 : Int32)), (.int (2 : Int32))]))
            refine Go.s (fun kz => XS.icmpYes X0.here hx rfl (pc0 := 112) (pc' := 124) rfl (hb hby at_112) rfl (XT.ii_lt_t (by decide)) (by decide) (by decide) kz) ?_
            show Go p.tables e below P (s₁.setTop (mkF m 124 #[.val (.int p0), .val (.int p1), .val (.int p2), .val (.int p3), .val (.long tt), .second, .val (.int (2 : Int32)), .val (.int s0), .val (.int s1), .val (.int c2), t3, .unset, .unset, .unset, .unset, .unset, .unset, .unset, .unset, .unset, .unset] []))
            refine Go.s (fun kz => XS.iload X0.here hx rfl (hb hby at_124) rfl kz) ?_
            refine Go.s (fun kz => XS.iconst X0.here hx rfl (hb hby at_126) kz) ?_
            show Go p.tables e below P (s₁.setTop (mkF m 127 #[.val (.int p0), .val (.int p1), .val (.int p2), .val (.int p3), .val (.long tt), .second, .val (.int (2 : Int32)), .val (.int s0), .val (.int s1), .val (.int c2), t3, .unset, .unset, .unset, .unset, .unset, .unset, .unset, .unset, .unset, .unset] [(.int (1 : Int32)), (.int (2 : Int32))]))
            refine Go.s (fun kz => XS.icmpYes X0.here hx rfl (pc0 := 127) (pc' := 143) rfl (hb hby at_127) rfl (XT.ii_ne_t (by decide)) (by decide) (by decide) kz) ?_
            show Go p.tables e below P (s₁.setTop (mkF m 143 #[.val (.int p0), .val (.int p1), .val (.int p2), .val (.int p3), .val (.long tt), .second, .val (.int (2 : Int32)), .val (.int s0), .val (.int s1), .val (.int c2), t3, .unset, .unset, .unset, .unset, .unset, .unset, .unset, .unset, .unset, .unset] []))
            refine Go.s (fun kz => XS.iload X0.here hx rfl (hb hby at_143) rfl kz) ?_
            refine Go.s (fun kz => XS.iconst X0.here hx rfl (hb hby at_145) kz) ?_
            show Go p.tables e below P (s₁.setTop (mkF m 146 #[.val (.int p0), .val (.int p1), .val (.int p2), .val (.int p3), .val (.long tt), .second, .val (.int (2 : Int32)), .val (.int s0), .val (.int s1), .val (.int c2), t3, .unset, .unset, .unset, .unset, .unset, .unset, .unset, .unset, .unset, .unset] [(.int (2 : Int32)), (.int (2 : Int32))]))
            refine Go.s (fun kz => XS.icmpNo X0.here hx rfl (hb hby at_146) rfl (XT.ii_ne_f (by decide)) kz) ?_
            show Go p.tables e below P (s₁.setTop (mkF m 149 #[.val (.int p0), .val (.int p1), .val (.int p2), .val (.int p3), .val (.long tt), .second, .val (.int (2 : Int32)), .val (.int s0), .val (.int s1), .val (.int c2), t3, .unset, .unset, .unset, .unset, .unset, .unset, .unset, .unset, .unset, .unset] []))
            refine Go.s (fun kz => XS.iconst X0.here hx rfl (hb hby at_149) kz) ?_
            show Go p.tables e below P (s₁.setTop (mkF m 150 #[.val (.int p0), .val (.int p1), .val (.int p2), .val (.int p3), .val (.long tt), .second, .val (.int (2 : Int32)), .val (.int s0), .val (.int s1), .val (.int c2), t3, .unset, .unset, .unset, .unset, .unset, .unset, .unset, .unset, .unset, .unset] [(.int (2 : Int32))]))
            obtain ⟨T11, H11, k11, X11, e11, E11, A11, st11⟩ := newP X0 hx hZ (hw _ (List.mem_of_getElem? (i := 2) rfl)) e0 (g := (mkF m 150 #[.val (.int p0), .val (.int p1), .val (.int p2), .val (.int p3), .val (.long tt), .second, .val (.int (2 : Int32)), .val (.int s0), .val (.int s1), .val (.int c2), t3, .unset, .unset, .unset, .unset, .unset, .unset, .unset, .unset, .unset, .unset] [(.int (2 : Int32))])) rfl (hb hby at_150) rfl (by decide) (cap := 2) (by decide) (by decide) (by decide) (by decide)
            refine Go.s (fun {t} => st11 t) ?_
            obtain ⟨b11, g11⟩ : ∃ z, z = h0.size := ⟨_, rfl⟩
            rw [← g11] at A11
            rw [← g11]
            have G_b11 : n0 ≤ b11 := Nat.le_trans Z0 (Nat.le_of_eq g11.symm)
            have Zs11 := Nat.le_trans Z0 E11.1
            have V11 : Arv Z H11 b11 k11 .int (2 : Int32) [(.int (0 : Int32)), (.int (0 : Int32))] (.int (0 : Int32)) := (Arv.new A11 (by decide)).pad (pad_rep [] (.int (0 : Int32)) 2)
            refine Go.s (fun kz => XS.dup X11.here hx rfl (hb hby at_152) rfl rfl kz) ?_
            refine Go.s (fun kz => XS.iconst X11.here hx rfl (hb hby at_153) kz) ?_
            refine Go.s (fun kz => XS.iload X11.here hx rfl (hb hby at_154) rfl kz) ?_
            show Go p.tables e below P (T11.setTop (mkF m 156 #[.val (.int p0), .val (.int p1), .val (.int p2), .val (.int p3), .val (.long tt), .second, .val (.int (2 : Int32)), .val (.int s0), .val (.int s1), .val (.int c2), t3, .unset, .unset, .unset, .unset, .unset, .unset, .unset, .unset, .unset, .unset] [(.int s0), (.int (0 : Int32)), (.ref b11), (.ref b11)]))
            obtain ⟨cl12, Ar12, q12, Sz12, Ng12, Ha12, Ft12⟩ := id V11
            have hin12 := inb_of (j := (0 : Int32)) Sz12 ⟨by decide, by decide⟩
            obtain ⟨T12, H12, X12, e12, W12, st12⟩ := stI X11 hx hZ e11 Ar12 (j := (0 : Int32)) hin12 (g := (mkF m 156 #[.val (.int p0), .val (.int p1), .val (.int p2), .val (.int p3), .val (.long tt), .second, .val (.int (2 : Int32)), .val (.int s0), .val (.int s1), .val (.int c2), t3, .unset, .unset, .unset, .unset, .unset, .unset, .unset, .unset, .unset, .unset] [(.int s0), (.int (0 : Int32)), (.ref b11), (.ref b11)])) rfl rfl (hb hby at_156)
            refine Go.s (fun {t} => st12 t) ?_
            have V12 : Arv Z H12 b11 k11 .int (2 : Int32) [(.int s0), (.int (0 : Int32))] (.int (0 : Int32)) := Arv.set Ar12 q12 Sz12 Ng12 Ha12 Ft12 rfl W12 0 rfl (Nat.le_of_ble_eq_true rfl)
            have N12 := Fr.snoc X12 N0 G_b11
            have Zs12 := Nat.le_trans Zs11 (Keep.of_wr W12).1
            refine Go.s (fun kz => XS.dup X12.here hx rfl (hb hby at_157) rfl rfl kz) ?_
            refine Go.s (fun kz => XS.iconst X12.here hx rfl (hb hby at_158) kz) ?_
            refine Go.s (fun kz => XS.iload X12.here hx rfl (hb hby at_159) rfl kz) ?_
            show Go p.tables e below P (T12.setTop (mkF m 161 #[.val (.int p0), .val (.int p1), .val (.int p2), .val (.int p3), .val (.long tt), .second, .val (.int (2 : Int32)), .val (.int s0), .val (.int s1), .val (.int c2), t3, .unset, .unset, .unset, .unset, .unset, .unset, .unset, .unset, .unset, .unset] [(.int s1), (.int (1 : Int32)), (.ref b11), (.ref b11)]))
            obtain ⟨cl14, Ar14, q14, Sz14, Ng14, Ha14, Ft14⟩ := id V12
            have hin14 := inb_of (j := (1 : Int32)) Sz14 ⟨by decide, by decide⟩
            obtain ⟨T14, H14, X14, e14, W14, st14⟩ := stI X12 hx hZ e12 Ar14 (j := (1 : Int32)) hin14 (g := (mkF m 161 #[.val (.int p0), .val (.int p1), .val (.int p2), .val (.int p3), .val (.long tt), .second, .val (.int (2 : Int32)), .val (.int s0), .val (.int s1), .val (.int c2), t3, .unset, .unset, .unset, .unset, .unset, .unset, .unset, .unset, .unset, .unset] [(.int s1), (.int (1 : Int32)), (.ref b11), (.ref b11)])) rfl rfl (hb hby at_161)
            refine Go.s (fun {t} => st14 t) ?_
            have V14 : Arv Z H14 b11 k11 .int (2 : Int32) [(.int s0), (.int s1)] (.int (0 : Int32)) := Arv.set Ar14 q14 Sz14 Ng14 Ha14 Ft14 rfl W14 1 rfl (Nat.le_of_ble_eq_true rfl)
            have N14 := Fr.snoc X14 N12 G_b11
            have Zs14 := Nat.le_trans Zs12 (Keep.of_wr W14).1
            refine Go.s (fun kz => XS.astore X14.here hx rfl (hb hby at_162) rfl rfl (l' := #[.val (.int p0), .val (.int p1), .val (.int p2), .val (.int p3), .val (.long tt), .second, .val (.int (2 : Int32)), .val (.int s0), .val (.int s1), .val (.int c2), t3, .val (.ref b11), .unset, .unset, .unset, .unset, .unset, .unset, .unset, .unset, .unset]) rfl kz) ?_
            refine Go.s (fun kz => XS.goto X14.here hx rfl (pc0 := 164) (pc' := 187) rfl (hb hby at_164) (by decide) (by decide) kz) ?_
            show Go p.tables e below P (T14.setTop (mkF m 187 #[.val (.int p0), .val (.int p1), .val (.int p2), .val (.int p3), .val (.long tt), .second, .val (.int (2 : Int32)), .val (.int s0), .val (.int s1), .val (.int c2), t3, .val (.ref b11), .unset, .unset, .unset, .unset, .unset, .unset, .unset, .unset, .unset] []))
            obtain ⟨T16, H16, X16, e16, E16, A16, D16, U16, st16⟩ := newO X14 hx hZ hown (hw _ (List.mem_of_getElem? (i := 3) rfl)) (hw _ (List.mem_of_getElem? (i := 4) rfl)) (hw _ (List.mem_of_getElem? (i := 5) rfl)) e14 (g := (mkF m 187 #[.val (.int p0), .val (.int p1), .val (.int p2), .val (.int p3), .val (.long tt), .second, .val (.int (2 : Int32)), .val (.int s0), .val (.int s1), .val (.int c2), t3, .val (.ref b11), .unset, .unset, .unset, .unset, .unset, .unset, .unset, .unset, .unset] [])) rfl (hb hby at_187) (by decide) (by decide)
            refine Go.s (fun {t} => st16 t) ?_
            obtain ⟨b16, g16⟩ : ∃ z, z = H14.size := ⟨_, rfl⟩
            rw [← g16] at A16 D16 U16
            rw [← g16]
            have ne_b11_b16 : b11 ≠ b16 := Nat.ne_of_lt (Nat.lt_of_lt_of_le V14.lt (Nat.le_of_eq g16.symm))
            have V14_17 := Arv.ext V14 E16
            have G_b16 : n0 ≤ b16 := Nat.le_trans Zs14 (Nat.le_of_eq g16.symm)
            have Zs16 := Nat.le_trans Zs14 E16.1
            have Kn16 := Kn.of_new U16
            refine Go.s (fun kz => XS.dup X16.here hx rfl (hb hby at_190) rfl rfl kz) ?_
            refine Go.s (fun kz => XS.aload X16.here hx rfl (hb hby at_191) rfl rfl kz) ?_
            show Go p.tables e below P (T16.setTop (mkF m 193 #[.val (.int p0), .val (.int p1), .val (.int p2), .val (.int p3), .val (.long tt), .second, .val (.int (2 : Int32)), .val (.int s0), .val (.int s1), .val (.int c2), t3, .val (.ref b11), .unset, .unset, .unset, .unset, .unset, .unset, .unset, .unset, .unset] [(.ref b11), (.ref b16), (.ref b16)]))
            obtain ⟨v18, T18, L18, X18, Q18, st18⟩ := Con.special (own_rm1 l Z a0 hw [] b16 (.ref b11) H16 n0 Zs16 A16 Kn16 G_b16 rfl ) rfl X16 hx hZ (W := 1) hown (hw _ (List.mem_of_getElem? (i := 6) rfl)) (hw _ (List.mem_of_getElem? (i := 7) rfl)) (hw _ (List.mem_of_getElem? (i := 5) rfl)) (hw _ (List.mem_of_getElem? (i := 8) rfl)) (by decide) (by decide) (by decide) (by decide) (by decide) e16 (g := (mkF m 193 #[.val (.int p0), .val (.int p1), .val (.int p2), .val (.int p3), .val (.long tt), .second, .val (.int (2 : Int32)), .val (.int s0), .val (.int s1), .val (.int c2), t3, .val (.ref b11), .unset, .unset, .unset, .unset, .unset, .unset, .unset, .unset, .unset] [(.ref b11), (.ref b16), (.ref b16)])) rfl (by rw [hml]; rfl) (argsL := [(.ref b11)]) (rest := [(.ref b16)]) rfl (lenOf own_pd_4 rfl) rfl (by show 2 * 0 + _ ≤ _; exact Nat.le_of_eq rfl) (hb hby at_193)
            obtain ⟨H18, e18⟩ : ∃ z, T18.heap = z := ⟨_, rfl⟩
            rw [e18] at Q18
            obtain ⟨rfl, Nq18, Kq18, Fq18_secondsOfDay⟩ := Q18
            have N18 := Fr.app N14 Nq18
            have Zs18 := Nat.le_trans Zs16 Kq18.1
            have V14_19 := Arv.keep V14_17 Kq18 (ninS ne_b11_b16 nin0)
            have A16_20 := Exa.keep A16 Kq18
            have Kn16_21 := Kn.keep Kn16 Kq18
            refine Go.s (fun {t} => st18) ?_
            refine Go.s (fun kz => XS.astore X18.here hx rfl (hb hby at_196) rfl rfl (l' := #[.val (.int p0), .val (.int p1), .val (.int p2), .val (.int p3), .val (.long tt), .second, .val (.int (2 : Int32)), .val (.int s0), .val (.int s1), .val (.int c2), t3, .val (.ref b11), .val (.ref b16), .unset, .unset, .unset, .unset, .unset, .unset, .unset, .unset]) rfl kz) ?_
            refine Go.s (fun kz => XS.aload X18.here hx rfl (hb hby at_198) rfl rfl kz) ?_
            refine Go.s (fun kz => XT.lload X18.here hx rfl (hb hby at_200) rfl kz) ?_
            show Go p.tables e below P (T18.setTop (mkF m 202 #[.val (.int p0), .val (.int p1), .val (.int p2), .val (.int p3), .val (.long tt), .second, .val (.int (2 : Int32)), .val (.int s0), .val (.int s1), .val (.int c2), t3, .val (.ref b11), .val (.ref b16), .unset, .unset, .unset, .unset, .unset, .unset, .unset, .unset] [(.long tt), (.ref b16)]))
            obtain ⟨v22, T22, L22, X22, Q22, st22⟩ := Con.virtual (own_rm3_2 l Z a0 hw [] b16 b11 k11 tt s0 s1 H18 n0 Zs18 V14_19 Fq18_secondsOfDay A16_20) X18 hx hZ (W := 0) hown (hw _ (List.mem_of_getElem? (i := 14) rfl)) (hw _ (List.mem_of_getElem? (i := 15) rfl)) (hw _ (List.mem_of_getElem? (i := 17) rfl)) (hw _ (List.mem_of_getElem? (i := 16) rfl)) (hw _ (List.mem_of_getElem? (i := 5) rfl)) (hw _ (List.mem_of_getElem? (i := 18) rfl)) (by decide) (by decide) (by decide) (by decide) (by decide) e18 (g := (mkF m 202 #[.val (.int p0), .val (.int p1), .val (.int p2), .val (.int p3), .val (.long tt), .second, .val (.int (2 : Int32)), .val (.int s0), .val (.int s1), .val (.int c2), t3, .val (.ref b11), .val (.ref b16), .unset, .unset, .unset, .unset, .unset, .unset, .unset, .unset] [(.long tt), (.ref b16)])) rfl (by rw [hml]; rfl) A16_20 (argsL := [(.long tt)]) (rest := []) rfl (lenOf own_pd_5 rfl) rfl (by show 2 * 0 + _ ≤ _; exact Nat.le_of_eq rfl) (hb hby at_202)
            obtain ⟨hd22, Nq22, e22⟩ := Q22
            have N22 := Fr.app N18 Nq22
            rcases hd22 with ⟨rfl, k0, k1⟩ | ⟨rfl, k0, k1, k2⟩ | ⟨rfl, k0, k1, k2⟩ | ⟨rfl, k0, k1⟩ | ⟨rfl, k0, k1⟩
            · skip
              refine Go.s (fun {t} => st22) ?_
              show Go p.tables e below P (T22.setTop (mkF m 205 #[.val (.int p0), .val (.int p1), .val (.int p2), .val (.int p3), .val (.long tt), .second, .val (.int (2 : Int32)), .val (.int s0), .val (.int s1), .val (.int c2), t3, .val (.ref b11), .val (.ref b16), .unset, .unset, .unset, .unset, .unset, .unset, .unset, .unset] [(.long (((own_f4 tt (86400 : Int64)) + (1 : Int64)) * (86400 : Int64) + s0.toInt64))]))
              have hk := own_key tt
              have c2' : (2 : Int32).toInt = 2 := rfl
              have m0 := k0
              rw [Int32.lt_iff_toInt_lt, hk] at m0
              have m1 := k1
              rw [Int32.lt_iff_toInt_lt, hk] at m1
              refine Go.s (fun kz => XT.lstore X22.here hx rfl (hb hby at_205) rfl (l' := #[.val (.int p0), .val (.int p1), .val (.int p2), .val (.int p3), .val (.long tt), .second, .val (.int (2 : Int32)), .val (.int s0), .val (.int s1), .val (.int c2), t3, .val (.ref b11), .val (.ref b16), .val (.long (((own_f4 tt (86400 : Int64)) + (1 : Int64)) * (86400 : Int64) + s0.toInt64)), .second, .unset, .unset, .unset, .unset, .unset, .unset]) rfl kz) ?_
              refine Go.s (fun kz => XT.lload X22.here hx rfl (hb hby at_207) rfl kz) ?_
              refine Go.s (fun kz => X22.ldc2J hx hown (mvT hZ (hw _ (List.mem_of_getElem? (i := 38) rfl))) rfl (hb hby at_209) kz) ?_
              show Go p.tables e below P (T22.setTop (mkF m 212 #[.val (.int p0), .val (.int p1), .val (.int p2), .val (.int p3), .val (.long tt), .second, .val (.int (2 : Int32)), .val (.int s0), .val (.int s1), .val (.int c2), t3, .val (.ref b11), .val (.ref b16), .val (.long (((own_f4 tt (86400 : Int64)) + (1 : Int64)) * (86400 : Int64) + s0.toInt64)), .second, .unset, .unset, .unset, .unset, .unset, .unset] [(.long (86400 : Int64)), (.long tt)]))
              refine Go.s (fun kz => lremM X22 hx rfl (hb hby at_212) rfl (by decide) kz) ?_
              refine Go.s (fun kz => XT.lstore X22.here hx rfl (hb hby at_213) rfl (l' := #[.val (.int p0), .val (.int p1), .val (.int p2), .val (.int p3), .val (.long tt), .second, .val (.int (2 : Int32)), .val (.int s0), .val (.int s1), .val (.int c2), t3, .val (.ref b11), .val (.ref b16), .val (.long (((own_f4 tt (86400 : Int64)) + (1 : Int64)) * (86400 : Int64) + s0.toInt64)), .second, .val (.long (tt % (86400 : Int64))), .second, .unset, .unset, .unset, .unset]) rfl kz) ?_
              show Go p.tables e below P (T22.setTop (mkF m 215 #[.val (.int p0), .val (.int p1), .val (.int p2), .val (.int p3), .val (.long tt), .second, .val (.int (2 : Int32)), .val (.int s0), .val (.int s1), .val (.int c2), t3, .val (.ref b11), .val (.ref b16), .val (.long (((own_f4 tt (86400 : Int64)) + (1 : Int64)) * (86400 : Int64) + s0.toInt64)), .second, .val (.long (tt % (86400 : Int64))), .second, .unset, .unset, .unset, .unset] []))
              have J230 : ∀ (rr : Int64) (hrr : rr.toInt = tt.toInt % 86400), Go p.tables e below P (T22.setTop (mkF m 230 #[.val (.int p0), .val (.int p1), .val (.int p2), .val (.int p3), .val (.long tt), .second, .val (.int (2 : Int32)), .val (.int s0), .val (.int s1), .val (.int c2), t3, .val (.ref b11), .val (.ref b16), .val (.long (((own_f4 tt (86400 : Int64)) + (1 : Int64)) * (86400 : Int64) + s0.toInt64)), .second, .val (.long rr), .second, .unset, .unset, .unset, .unset] [])) := by
                intro rr hrr
                refine Go.s (fun kz => XT.lload X22.here hx rfl (hb hby at_230) rfl kz) ?_
                refine Go.s (fun kz => XT.lload X22.here hx rfl (hb hby at_232) rfl kz) ?_
                refine Go.s (fun kz => XT.lsub X22.here hx rfl (hb hby at_234) rfl kz) ?_
                refine Go.s (fun kz => XT.lstore X22.here hx rfl (hb hby at_235) rfl (l' := #[.val (.int p0), .val (.int p1), .val (.int p2), .val (.int p3), .val (.long tt), .second, .val (.int (2 : Int32)), .val (.int s0), .val (.int s1), .val (.int c2), t3, .val (.ref b11), .val (.ref b16), .val (.long (((own_f4 tt (86400 : Int64)) + (1 : Int64)) * (86400 : Int64) + s0.toInt64)), .second, .val (.long rr), .second, .val (.long (tt - rr)), .second, .unset, .unset]) rfl kz) ?_
                refine Go.s (fun kz => XT.lload X22.here hx rfl (hb hby at_237) rfl kz) ?_
                refine Go.s (fun kz => XS.iload X22.here hx rfl (hb hby at_239) rfl kz) ?_
                show Go p.tables e below P (T22.setTop (mkF m 241 #[.val (.int p0), .val (.int p1), .val (.int p2), .val (.int p3), .val (.long tt), .second, .val (.int (2 : Int32)), .val (.int s0), .val (.int s1), .val (.int c2), t3, .val (.ref b11), .val (.ref b16), .val (.long (((own_f4 tt (86400 : Int64)) + (1 : Int64)) * (86400 : Int64) + s0.toInt64)), .second, .val (.long rr), .second, .val (.long (tt - rr)), .second, .unset, .unset] [(.int s0), (.long rr)]))
                refine Go.s (fun kz => XT.i2l X22.here hx rfl (hb hby at_241) rfl kz) ?_
                refine Go.s (fun kz => XT.lcmp X22.here hx rfl (hb hby at_242) rfl kz) ?_
                show Go p.tables e below P (T22.setTop (mkF m 243 #[.val (.int p0), .val (.int p1), .val (.int p2), .val (.int p3), .val (.long tt), .second, .val (.int (2 : Int32)), .val (.int s0), .val (.int s1), .val (.int c2), t3, .val (.ref b11), .val (.ref b16), .val (.long (((own_f4 tt (86400 : Int64)) + (1 : Int64)) * (86400 : Int64) + s0.toInt64)), .second, .val (.long rr), .second, .val (.long (tt - rr)), .second, .unset, .unset] [(.int (XT.cmpL rr s0.toInt64))]))
                refine Go.s (fun kz => XS.ifYes X22.here hx rfl (pc0 := 243) (pc' := 257) rfl (hb hby at_243) rfl (XT.ll_gt_t (by have z104 := hc104; rw [← Int32.toInt_inj] at z104; rw [Int64.lt_iff_toInt_lt, Jvm.Kit.i64_of_i32]; omega)) (by decide) (by decide) kz) ?_
                show Go p.tables e below P (T22.setTop (mkF m 257 #[.val (.int p0), .val (.int p1), .val (.int p2), .val (.int p3), .val (.long tt), .second, .val (.int (2 : Int32)), .val (.int s0), .val (.int s1), .val (.int c2), t3, .val (.ref b11), .val (.ref b16), .val (.long (((own_f4 tt (86400 : Int64)) + (1 : Int64)) * (86400 : Int64) + s0.toInt64)), .second, .val (.long rr), .second, .val (.long (tt - rr)), .second, .unset, .unset] []))
                refine Go.s (fun kz => XS.iload X22.here hx rfl (hb hby at_257) rfl kz) ?_
                refine Go.s (fun kz => XS.iconst X22.here hx rfl (hb hby at_259) kz) ?_
                show Go p.tables e below P (T22.setTop (mkF m 260 #[.val (.int p0), .val (.int p1), .val (.int p2), .val (.int p3), .val (.long tt), .second, .val (.int (2 : Int32)), .val (.int s0), .val (.int s1), .val (.int c2), t3, .val (.ref b11), .val (.ref b16), .val (.long (((own_f4 tt (86400 : Int64)) + (1 : Int64)) * (86400 : Int64) + s0.toInt64)), .second, .val (.long rr), .second, .val (.long (tt - rr)), .second, .unset, .unset] [(.int (2 : Int32)), (.int (2 : Int32))]))
                refine Go.s (fun kz => XS.icmpNo X22.here hx rfl (hb hby at_260) rfl (XT.ii_lt_f (by decide)) kz) ?_
                show Go p.tables e below P (T22.setTop (mkF m 263 #[.val (.int p0), .val (.int p1), .val (.int p2), .val (.int p3), .val (.long tt), .second, .val (.int (2 : Int32)), .val (.int s0), .val (.int s1), .val (.int c2), t3, .val (.ref b11), .val (.ref b16), .val (.long (((own_f4 tt (86400 : Int64)) + (1 : Int64)) * (86400 : Int64) + s0.toInt64)), .second, .val (.long rr), .second, .val (.long (tt - rr)), .second, .unset, .unset] []))
                refine Go.s (fun kz => XT.lload X22.here hx rfl (hb hby at_263) rfl kz) ?_
                refine Go.s (fun kz => XS.iload X22.here hx rfl (hb hby at_265) rfl kz) ?_
                refine Go.s (fun kz => XT.i2l X22.here hx rfl (hb hby at_267) rfl kz) ?_
                refine Go.s (fun kz => XT.lcmp X22.here hx rfl (hb hby at_268) rfl kz) ?_
                show Go p.tables e below P (T22.setTop (mkF m 269 #[.val (.int p0), .val (.int p1), .val (.int p2), .val (.int p3), .val (.long tt), .second, .val (.int (2 : Int32)), .val (.int s0), .val (.int s1), .val (.int c2), t3, .val (.ref b11), .val (.ref b16), .val (.long (((own_f4 tt (86400 : Int64)) + (1 : Int64)) * (86400 : Int64) + s0.toInt64)), .second, .val (.long rr), .second, .val (.long (tt - rr)), .second, .unset, .unset] [(.int (XT.cmpL rr s1.toInt64))]))
                refine Go.s (fun kz => XS.ifYes X22.here hx rfl (pc0 := 269) (pc' := 283) rfl (hb hby at_269) rfl (XT.ll_gt_t (by have z104 := hc104; rw [← Int32.toInt_inj] at z104; rw [Int64.lt_iff_toInt_lt, Jvm.Kit.i64_of_i32]; omega)) (by decide) (by decide) kz) ?_
                show Go p.tables e below P (T22.setTop (mkF m 283 #[.val (.int p0), .val (.int p1), .val (.int p2), .val (.int p3), .val (.long tt), .second, .val (.int (2 : Int32)), .val (.int s0), .val (.int s1), .val (.int c2), t3, .val (.ref b11), .val (.ref b16), .val (.long (((own_f4 tt (86400 : Int64)) + (1 : Int64)) * (86400 : Int64) + s0.toInt64)), .second, .val (.long rr), .second, .val (.long (tt - rr)), .second, .unset, .unset] []))
                refine Go.s (fun kz => XS.iload X22.here hx rfl (hb hby at_283) rfl kz) ?_
                refine Go.s (fun kz => XS.iconst X22.here hx rfl (hb hby at_285) kz) ?_
                show Go p.tables e below P (T22.setTop (mkF m 286 #[.val (.int p0), .val (.int p1), .val (.int p2), .val (.int p3), .val (.long tt), .second, .val (.int (2 : Int32)), .val (.int s0), .val (.int s1), .val (.int c2), t3, .val (.ref b11), .val (.ref b16), .val (.long (((own_f4 tt (86400 : Int64)) + (1 : Int64)) * (86400 : Int64) + s0.toInt64)), .second, .val (.long rr), .second, .val (.long (tt - rr)), .second, .unset, .unset] [(.int (3 : Int32)), (.int (2 : Int32))]))
                refine Go.s (fun kz => XS.icmpYes X22.here hx rfl (pc0 := 286) (pc' := 309) rfl (hb hby at_286) rfl (XT.ii_lt_t (by decide)) (by decide) (by decide) kz) ?_
                show Go p.tables e below P (T22.setTop (mkF m 309 #[.val (.int p0), .val (.int p1), .val (.int p2), .val (.int p3), .val (.long tt), .second, .val (.int (2 : Int32)), .val (.int s0), .val (.int s1), .val (.int c2), t3, .val (.ref b11), .val (.ref b16), .val (.long (((own_f4 tt (86400 : Int64)) + (1 : Int64)) * (86400 : Int64) + s0.toInt64)), .second, .val (.long rr), .second, .val (.long (tt - rr)), .second, .unset, .unset] []))
                refine Go.s (fun kz => XT.lload X22.here hx rfl (hb hby at_309) rfl kz) ?_
                refine Go.s (fun kz => X22.ldc2J hx hown (mvT hZ (hw _ (List.mem_of_getElem? (i := 38) rfl))) rfl (hb hby at_311) kz) ?_
                refine Go.s (fun kz => XT.ladd X22.here hx rfl (hb hby at_314) rfl kz) ?_
                refine Go.s (fun kz => XS.iload X22.here hx rfl (hb hby at_315) rfl kz) ?_
                refine Go.s (fun kz => XT.i2l X22.here hx rfl (hb hby at_317) rfl kz) ?_
                refine Go.s (fun kz => XT.ladd X22.here hx rfl (hb hby at_318) rfl kz) ?_
                show Go p.tables e below P (T22.setTop (mkF m 319 #[.val (.int p0), .val (.int p1), .val (.int p2), .val (.int p3), .val (.long tt), .second, .val (.int (2 : Int32)), .val (.int s0), .val (.int s1), .val (.int c2), t3, .val (.ref b11), .val (.ref b16), .val (.long (((own_f4 tt (86400 : Int64)) + (1 : Int64)) * (86400 : Int64) + s0.toInt64)), .second, .val (.long rr), .second, .val (.long (tt - rr)), .second, .unset, .unset] [(.long (((tt - rr) + (86400 : Int64)) + s0.toInt64))]))
                refine Go.s (fun kz => XT.lstore X22.here hx rfl (hb hby at_319) rfl (l' := #[.val (.int p0), .val (.int p1), .val (.int p2), .val (.int p3), .val (.long tt), .second, .val (.int (2 : Int32)), .val (.int s0), .val (.int s1), .val (.int c2), t3, .val (.ref b11), .val (.ref b16), .val (.long (((own_f4 tt (86400 : Int64)) + (1 : Int64)) * (86400 : Int64) + s0.toInt64)), .second, .val (.long rr), .second, .val (.long (tt - rr)), .second, .val (.long (((tt - rr) + (86400 : Int64)) + s0.toInt64)), .second]) rfl kz) ?_
                refine Go.s (fun kz => XT.lload X22.here hx rfl (hb hby at_321) rfl kz) ?_
                refine Go.s (fun kz => XT.lload X22.here hx rfl (hb hby at_323) rfl kz) ?_
                refine Go.s (fun kz => XT.lcmp X22.here hx rfl (hb hby at_325) rfl kz) ?_
                show Go p.tables e below P (T22.setTop (mkF m 326 #[.val (.int p0), .val (.int p1), .val (.int p2), .val (.int p3), .val (.long tt), .second, .val (.int (2 : Int32)), .val (.int s0), .val (.int s1), .val (.int c2), t3, .val (.ref b11), .val (.ref b16), .val (.long (((own_f4 tt (86400 : Int64)) + (1 : Int64)) * (86400 : Int64) + s0.toInt64)), .second, .val (.long rr), .second, .val (.long (tt - rr)), .second, .val (.long (((tt - rr) + (86400 : Int64)) + s0.toInt64)), .second] [(.int (XT.cmpL (((own_f4 tt (86400 : Int64)) + (1 : Int64)) * (86400 : Int64) + s0.toInt64) (((tt - rr) + (86400 : Int64)) + s0.toInt64)))]))
                refine Go.s (fun kz => XS.ifNo X22.here hx rfl (hb hby at_326) rfl (XT.ll_ne_f (own_got2 tt rr s0 hrr)) kz) ?_
                show Go p.tables e below P (T22.setTop (mkF m 329 #[.val (.int p0), .val (.int p1), .val (.int p2), .val (.int p3), .val (.long tt), .second, .val (.int (2 : Int32)), .val (.int s0), .val (.int s1), .val (.int c2), t3, .val (.ref b11), .val (.ref b16), .val (.long (((own_f4 tt (86400 : Int64)) + (1 : Int64)) * (86400 : Int64) + s0.toInt64)), .second, .val (.long rr), .second, .val (.long (tt - rr)), .second, .val (.long (((tt - rr) + (86400 : Int64)) + s0.toInt64)), .second] []))
                refine Go.s (fun kz => XS.iconst X22.here hx rfl (hb hby at_329) kz) ?_
                refine Go.s (fun kz => XS.goto X22.here hx rfl (pc0 := 330) (pc' := 334) rfl (hb hby at_330) (by decide) (by decide) kz) ?_
                show Go p.tables e below P (T22.setTop (mkF m 334 #[.val (.int p0), .val (.int p1), .val (.int p2), .val (.int p3), .val (.long tt), .second, .val (.int (2 : Int32)), .val (.int s0), .val (.int s1), .val (.int c2), t3, .val (.ref b11), .val (.ref b16), .val (.long (((own_f4 tt (86400 : Int64)) + (1 : Int64)) * (86400 : Int64) + s0.toInt64)), .second, .val (.long rr), .second, .val (.long (tt - rr)), .second, .val (.long (((tt - rr) + (86400 : Int64)) + s0.toInt64)), .second] [(.int (1 : Int32))]))
                exact Go.retZ X22 hx hlk hret (by decide) (hb hby at_334) (fun U hU hF => hP U _ _ ⟨rfl, N22⟩ ⟨hF.1, hF.2.1, hF.2.2.mono (by decide) (by decide)⟩)
              refine Go.s (fun kz => XT.lload X22.here hx rfl (hb hby at_215) rfl kz) ?_
              refine Go.s (fun kz => XT.lconst X22.here hx rfl (hb hby at_217) kz) ?_
              refine Go.s (fun kz => XT.lcmp X22.here hx rfl (hb hby at_218) rfl kz) ?_
              show Go p.tables e below P (T22.setTop (mkF m 219 #[.val (.int p0), .val (.int p1), .val (.int p2), .val (.int p3), .val (.long tt), .second, .val (.int (2 : Int32)), .val (.int s0), .val (.int s1), .val (.int c2), t3, .val (.ref b11), .val (.ref b16), .val (.long (((own_f4 tt (86400 : Int64)) + (1 : Int64)) * (86400 : Int64) + s0.toInt64)), .second, .val (.long (tt % (86400 : Int64))), .second, .unset, .unset, .unset, .unset] [(.int (XT.cmpL (tt % (86400 : Int64)) (0 : Int64)))]))
              by_cases hc219 : (tt % (86400 : Int64)) < (0 : Int64)
              · skip
                refine Go.s (fun kz => XS.ifNo X22.here hx rfl (hb hby at_219) rfl (XT.ll_ge_f hc219) kz) ?_
                show Go p.tables e below P (T22.setTop (mkF m 222 #[.val (.int p0), .val (.int p1), .val (.int p2), .val (.int p3), .val (.long tt), .second, .val (.int (2 : Int32)), .val (.int s0), .val (.int s1), .val (.int c2), t3, .val (.ref b11), .val (.ref b16), .val (.long (((own_f4 tt (86400 : Int64)) + (1 : Int64)) * (86400 : Int64) + s0.toInt64)), .second, .val (.long (tt % (86400 : Int64))), .second, .unset, .unset, .unset, .unset] []))
                refine Go.s (fun kz => XT.lload X22.here hx rfl (hb hby at_222) rfl kz) ?_
                refine Go.s (fun kz => X22.ldc2J hx hown (mvT hZ (hw _ (List.mem_of_getElem? (i := 38) rfl))) rfl (hb hby at_224) kz) ?_
                refine Go.s (fun kz => XT.ladd X22.here hx rfl (hb hby at_227) rfl kz) ?_
                refine Go.s (fun kz => XT.lstore X22.here hx rfl (hb hby at_228) rfl (l' := #[.val (.int p0), .val (.int p1), .val (.int p2), .val (.int p3), .val (.long tt), .second, .val (.int (2 : Int32)), .val (.int s0), .val (.int s1), .val (.int c2), t3, .val (.ref b11), .val (.ref b16), .val (.long (((own_f4 tt (86400 : Int64)) + (1 : Int64)) * (86400 : Int64) + s0.toInt64)), .second, .val (.long ((tt % (86400 : Int64)) + (86400 : Int64))), .second, .unset, .unset, .unset, .unset]) rfl kz) ?_
                show Go p.tables e below P (T22.setTop (mkF m 230 #[.val (.int p0), .val (.int p1), .val (.int p2), .val (.int p3), .val (.long tt), .second, .val (.int (2 : Int32)), .val (.int s0), .val (.int s1), .val (.int c2), t3, .val (.ref b11), .val (.ref b16), .val (.long (((own_f4 tt (86400 : Int64)) + (1 : Int64)) * (86400 : Int64) + s0.toInt64)), .second, .val (.long ((tt % (86400 : Int64)) + (86400 : Int64))), .second, .unset, .unset, .unset, .unset] []))
                exact J230 ((tt % (86400 : Int64)) + (86400 : Int64)) ((own_rr tt).2 hc219)
              · skip
                refine Go.s (fun kz => XS.ifYes X22.here hx rfl (pc0 := 219) (pc' := 230) rfl (hb hby at_219) rfl (XT.ll_ge_t hc219) (by decide) (by decide) kz) ?_
                show Go p.tables e below P (T22.setTop (mkF m 230 #[.val (.int p0), .val (.int p1), .val (.int p2), .val (.int p3), .val (.long tt), .second, .val (.int (2 : Int32)), .val (.int s0), .val (.int s1), .val (.int c2), t3, .val (.ref b11), .val (.ref b16), .val (.long (((own_f4 tt (86400 : Int64)) + (1 : Int64)) * (86400 : Int64) + s0.toInt64)), .second, .val (.long (tt % (86400 : Int64))), .second, .unset, .unset, .unset, .unset] []))
                exact J230 (tt % (86400 : Int64)) ((own_rr tt).1 hc219)
            · skip
              refine Go.s (fun {t} => st22) ?_
              show Go p.tables e below P (T22.setTop (mkF m 205 #[.val (.int p0), .val (.int p1), .val (.int p2), .val (.int p3), .val (.long tt), .second, .val (.int (2 : Int32)), .val (.int s0), .val (.int s1), .val (.int c2), t3, .val (.ref b11), .val (.ref b16), .unset, .unset, .unset, .unset, .unset, .unset, .unset, .unset] [(.long ((own_f4 tt (86400 : Int64)) * (86400 : Int64) + s1.toInt64))]))
              have hk := own_key tt
              have c2' : (2 : Int32).toInt = 2 := rfl
              have m0 := k0
              rw [Int32.lt_iff_toInt_lt, hk] at m0
              have m1 := k1
              rw [Int32.lt_iff_toInt_lt, hk] at m1
              have m2 := k2
              rw [Int32.lt_iff_toInt_lt, hk] at m2
              refine Go.s (fun kz => XT.lstore X22.here hx rfl (hb hby at_205) rfl (l' := #[.val (.int p0), .val (.int p1), .val (.int p2), .val (.int p3), .val (.long tt), .second, .val (.int (2 : Int32)), .val (.int s0), .val (.int s1), .val (.int c2), t3, .val (.ref b11), .val (.ref b16), .val (.long ((own_f4 tt (86400 : Int64)) * (86400 : Int64) + s1.toInt64)), .second, .unset, .unset, .unset, .unset, .unset, .unset]) rfl kz) ?_
              refine Go.s (fun kz => XT.lload X22.here hx rfl (hb hby at_207) rfl kz) ?_
              refine Go.s (fun kz => X22.ldc2J hx hown (mvT hZ (hw _ (List.mem_of_getElem? (i := 38) rfl))) rfl (hb hby at_209) kz) ?_
              show Go p.tables e below P (T22.setTop (mkF m 212 #[.val (.int p0), .val (.int p1), .val (.int p2), .val (.int p3), .val (.long tt), .second, .val (.int (2 : Int32)), .val (.int s0), .val (.int s1), .val (.int c2), t3, .val (.ref b11), .val (.ref b16), .val (.long ((own_f4 tt (86400 : Int64)) * (86400 : Int64) + s1.toInt64)), .second, .unset, .unset, .unset, .unset, .unset, .unset] [(.long (86400 : Int64)), (.long tt)]))
              refine Go.s (fun kz => lremM X22 hx rfl (hb hby at_212) rfl (by decide) kz) ?_
              refine Go.s (fun kz => XT.lstore X22.here hx rfl (hb hby at_213) rfl (l' := #[.val (.int p0), .val (.int p1), .val (.int p2), .val (.int p3), .val (.long tt), .second, .val (.int (2 : Int32)), .val (.int s0), .val (.int s1), .val (.int c2), t3, .val (.ref b11), .val (.ref b16), .val (.long ((own_f4 tt (86400 : Int64)) * (86400 : Int64) + s1.toInt64)), .second, .val (.long (tt % (86400 : Int64))), .second, .unset, .unset, .unset, .unset]) rfl kz) ?_
              show Go p.tables e below P (T22.setTop (mkF m 215 #[.val (.int p0), .val (.int p1), .val (.int p2), .val (.int p3), .val (.long tt), .second, .val (.int (2 : Int32)), .val (.int s0), .val (.int s1), .val (.int c2), t3, .val (.ref b11), .val (.ref b16), .val (.long ((own_f4 tt (86400 : Int64)) * (86400 : Int64) + s1.toInt64)), .second, .val (.long (tt % (86400 : Int64))), .second, .unset, .unset, .unset, .unset] []))
              have J230 : ∀ (rr : Int64) (hrr : rr.toInt = tt.toInt % 86400), Go p.tables e below P (T22.setTop (mkF m 230 #[.val (.int p0), .val (.int p1), .val (.int p2), .val (.int p3), .val (.long tt), .second, .val (.int (2 : Int32)), .val (.int s0), .val (.int s1), .val (.int c2), t3, .val (.ref b11), .val (.ref b16), .val (.long ((own_f4 tt (86400 : Int64)) * (86400 : Int64) + s1.toInt64)), .second, .val (.long rr), .second, .unset, .unset, .unset, .unset] [])) := by
                intro rr hrr
                refine Go.s (fun kz => XT.lload X22.here hx rfl (hb hby at_230) rfl kz) ?_
                refine Go.s (fun kz => XT.lload X22.here hx rfl (hb hby at_232) rfl kz) ?_
                refine Go.s (fun kz => XT.lsub X22.here hx rfl (hb hby at_234) rfl kz) ?_
                refine Go.s (fun kz => XT.lstore X22.here hx rfl (hb hby at_235) rfl (l' := #[.val (.int p0), .val (.int p1), .val (.int p2), .val (.int p3), .val (.long tt), .second, .val (.int (2 : Int32)), .val (.int s0), .val (.int s1), .val (.int c2), t3, .val (.ref b11), .val (.ref b16), .val (.long ((own_f4 tt (86400 : Int64)) * (86400 : Int64) + s1.toInt64)), .second, .val (.long rr), .second, .val (.long (tt - rr)), .second, .unset, .unset]) rfl kz) ?_
                refine Go.s (fun kz => XT.lload X22.here hx rfl (hb hby at_237) rfl kz) ?_
                refine Go.s (fun kz => XS.iload X22.here hx rfl (hb hby at_239) rfl kz) ?_
                show Go p.tables e below P (T22.setTop (mkF m 241 #[.val (.int p0), .val (.int p1), .val (.int p2), .val (.int p3), .val (.long tt), .second, .val (.int (2 : Int32)), .val (.int s0), .val (.int s1), .val (.int c2), t3, .val (.ref b11), .val (.ref b16), .val (.long ((own_f4 tt (86400 : Int64)) * (86400 : Int64) + s1.toInt64)), .second, .val (.long rr), .second, .val (.long (tt - rr)), .second, .unset, .unset] [(.int s0), (.long rr)]))
                refine Go.s (fun kz => XT.i2l X22.here hx rfl (hb hby at_241) rfl kz) ?_
                refine Go.s (fun kz => XT.lcmp X22.here hx rfl (hb hby at_242) rfl kz) ?_
                show Go p.tables e below P (T22.setTop (mkF m 243 #[.val (.int p0), .val (.int p1), .val (.int p2), .val (.int p3), .val (.long tt), .second, .val (.int (2 : Int32)), .val (.int s0), .val (.int s1), .val (.int c2), t3, .val (.ref b11), .val (.ref b16), .val (.long ((own_f4 tt (86400 : Int64)) * (86400 : Int64) + s1.toInt64)), .second, .val (.long rr), .second, .val (.long (tt - rr)), .second, .unset, .unset] [(.int (XT.cmpL rr s0.toInt64))]))
                refine Go.s (fun kz => XS.ifYes X22.here hx rfl (pc0 := 243) (pc' := 257) rfl (hb hby at_243) rfl (XT.ll_gt_t (by have z104 := hc104; rw [← Int32.toInt_inj] at z104; rw [Int64.lt_iff_toInt_lt, Jvm.Kit.i64_of_i32]; omega)) (by decide) (by decide) kz) ?_
                show Go p.tables e below P (T22.setTop (mkF m 257 #[.val (.int p0), .val (.int p1), .val (.int p2), .val (.int p3), .val (.long tt), .second, .val (.int (2 : Int32)), .val (.int s0), .val (.int s1), .val (.int c2), t3, .val (.ref b11), .val (.ref b16), .val (.long ((own_f4 tt (86400 : Int64)) * (86400 : Int64) + s1.toInt64)), .second, .val (.long rr), .second, .val (.long (tt - rr)), .second, .unset, .unset] []))
                refine Go.s (fun kz => XS.iload X22.here hx rfl (hb hby at_257) rfl kz) ?_
                refine Go.s (fun kz => XS.iconst X22.here hx rfl (hb hby at_259) kz) ?_
                show Go p.tables e below P (T22.setTop (mkF m 260 #[.val (.int p0), .val (.int p1), .val (.int p2), .val (.int p3), .val (.long tt), .second, .val (.int (2 : Int32)), .val (.int s0), .val (.int s1), .val (.int c2), t3, .val (.ref b11), .val (.ref b16), .val (.long ((own_f4 tt (86400 : Int64)) * (86400 : Int64) + s1.toInt64)), .second, .val (.long rr), .second, .val (.long (tt - rr)), .second, .unset, .unset] [(.int (2 : Int32)), (.int (2 : Int32))]))
                refine Go.s (fun kz => XS.icmpNo X22.here hx rfl (hb hby at_260) rfl (XT.ii_lt_f (by decide)) kz) ?_
                show Go p.tables e below P (T22.setTop (mkF m 263 #[.val (.int p0), .val (.int p1), .val (.int p2), .val (.int p3), .val (.long tt), .second, .val (.int (2 : Int32)), .val (.int s0), .val (.int s1), .val (.int c2), t3, .val (.ref b11), .val (.ref b16), .val (.long ((own_f4 tt (86400 : Int64)) * (86400 : Int64) + s1.toInt64)), .second, .val (.long rr), .second, .val (.long (tt - rr)), .second, .unset, .unset] []))
                refine Go.s (fun kz => XT.lload X22.here hx rfl (hb hby at_263) rfl kz) ?_
                refine Go.s (fun kz => XS.iload X22.here hx rfl (hb hby at_265) rfl kz) ?_
                refine Go.s (fun kz => XT.i2l X22.here hx rfl (hb hby at_267) rfl kz) ?_
                refine Go.s (fun kz => XT.lcmp X22.here hx rfl (hb hby at_268) rfl kz) ?_
                show Go p.tables e below P (T22.setTop (mkF m 269 #[.val (.int p0), .val (.int p1), .val (.int p2), .val (.int p3), .val (.long tt), .second, .val (.int (2 : Int32)), .val (.int s0), .val (.int s1), .val (.int c2), t3, .val (.ref b11), .val (.ref b16), .val (.long ((own_f4 tt (86400 : Int64)) * (86400 : Int64) + s1.toInt64)), .second, .val (.long rr), .second, .val (.long (tt - rr)), .second, .unset, .unset] [(.int (XT.cmpL rr s1.toInt64))]))
                refine Go.s (fun kz => XS.ifNo X22.here hx rfl (hb hby at_269) rfl (XT.ll_gt_f (by have z104 := hc104; rw [← Int32.toInt_inj] at z104; rw [Int64.lt_iff_toInt_lt, Jvm.Kit.i64_of_i32]; omega)) kz) ?_
                show Go p.tables e below P (T22.setTop (mkF m 272 #[.val (.int p0), .val (.int p1), .val (.int p2), .val (.int p3), .val (.long tt), .second, .val (.int (2 : Int32)), .val (.int s0), .val (.int s1), .val (.int c2), t3, .val (.ref b11), .val (.ref b16), .val (.long ((own_f4 tt (86400 : Int64)) * (86400 : Int64) + s1.toInt64)), .second, .val (.long rr), .second, .val (.long (tt - rr)), .second, .unset, .unset] []))
                refine Go.s (fun kz => XT.lload X22.here hx rfl (hb hby at_272) rfl kz) ?_
                refine Go.s (fun kz => XS.iload X22.here hx rfl (hb hby at_274) rfl kz) ?_
                refine Go.s (fun kz => XT.i2l X22.here hx rfl (hb hby at_276) rfl kz) ?_
                refine Go.s (fun kz => XT.ladd X22.here hx rfl (hb hby at_277) rfl kz) ?_
                refine Go.s (fun kz => XT.lstore X22.here hx rfl (hb hby at_278) rfl (l' := #[.val (.int p0), .val (.int p1), .val (.int p2), .val (.int p3), .val (.long tt), .second, .val (.int (2 : Int32)), .val (.int s0), .val (.int s1), .val (.int c2), t3, .val (.ref b11), .val (.ref b16), .val (.long ((own_f4 tt (86400 : Int64)) * (86400 : Int64) + s1.toInt64)), .second, .val (.long rr), .second, .val (.long (tt - rr)), .second, .val (.long ((tt - rr) + s1.toInt64)), .second]) rfl kz) ?_
                refine Go.s (fun kz => XS.goto X22.here hx rfl (pc0 := 280) (pc' := 321) rfl (hb hby at_280) (by decide) (by decide) kz) ?_
                show Go p.tables e below P (T22.setTop (mkF m 321 #[.val (.int p0), .val (.int p1), .val (.int p2), .val (.int p3), .val (.long tt), .second, .val (.int (2 : Int32)), .val (.int s0), .val (.int s1), .val (.int c2), t3, .val (.ref b11), .val (.ref b16), .val (.long ((own_f4 tt (86400 : Int64)) * (86400 : Int64) + s1.toInt64)), .second, .val (.long rr), .second, .val (.long (tt - rr)), .second, .val (.long ((tt - rr) + s1.toInt64)), .second] []))
                refine Go.s (fun kz => XT.lload X22.here hx rfl (hb hby at_321) rfl kz) ?_
                show Go p.tables e below P (T22.setTop (mkF m 323 #[.val (.int p0), .val (.int p1), .val (.int p2), .val (.int p3), .val (.long tt), .second, .val (.int (2 : Int32)), .val (.int s0), .val (.int s1), .val (.int c2), t3, .val (.ref b11), .val (.ref b16), .val (.long ((own_f4 tt (86400 : Int64)) * (86400 : Int64) + s1.toInt64)), .second, .val (.long rr), .second, .val (.long (tt - rr)), .second, .val (.long ((tt - rr) + s1.toInt64)), .second] [(.long ((own_f4 tt (86400 : Int64)) * (86400 : Int64) + s1.toInt64))]))
                refine Go.s (fun kz => XT.lload X22.here hx rfl (hb hby at_323) rfl kz) ?_
                refine Go.s (fun kz => XT.lcmp X22.here hx rfl (hb hby at_325) rfl kz) ?_
                show Go p.tables e below P (T22.setTop (mkF m 326 #[.val (.int p0), .val (.int p1), .val (.int p2), .val (.int p3), .val (.long tt), .second, .val (.int (2 : Int32)), .val (.int s0), .val (.int s1), .val (.int c2), t3, .val (.ref b11), .val (.ref b16), .val (.long ((own_f4 tt (86400 : Int64)) * (86400 : Int64) + s1.toInt64)), .second, .val (.long rr), .second, .val (.long (tt - rr)), .second, .val (.long ((tt - rr) + s1.toInt64)), .second] [(.int (XT.cmpL ((own_f4 tt (86400 : Int64)) * (86400 : Int64) + s1.toInt64) ((tt - rr) + s1.toInt64)))]))
                refine Go.s (fun kz => XS.ifNo X22.here hx rfl (hb hby at_326) rfl (XT.ll_ne_f (own_got tt rr s1 hrr)) kz) ?_
                show Go p.tables e below P (T22.setTop (mkF m 329 #[.val (.int p0), .val (.int p1), .val (.int p2), .val (.int p3), .val (.long tt), .second, .val (.int (2 : Int32)), .val (.int s0), .val (.int s1), .val (.int c2), t3, .val (.ref b11), .val (.ref b16), .val (.long ((own_f4 tt (86400 : Int64)) * (86400 : Int64) + s1.toInt64)), .second, .val (.long rr), .second, .val (.long (tt - rr)), .second, .val (.long ((tt - rr) + s1.toInt64)), .second] []))
                refine Go.s (fun kz => XS.iconst X22.here hx rfl (hb hby at_329) kz) ?_
                refine Go.s (fun kz => XS.goto X22.here hx rfl (pc0 := 330) (pc' := 334) rfl (hb hby at_330) (by decide) (by decide) kz) ?_
                show Go p.tables e below P (T22.setTop (mkF m 334 #[.val (.int p0), .val (.int p1), .val (.int p2), .val (.int p3), .val (.long tt), .second, .val (.int (2 : Int32)), .val (.int s0), .val (.int s1), .val (.int c2), t3, .val (.ref b11), .val (.ref b16), .val (.long ((own_f4 tt (86400 : Int64)) * (86400 : Int64) + s1.toInt64)), .second, .val (.long rr), .second, .val (.long (tt - rr)), .second, .val (.long ((tt - rr) + s1.toInt64)), .second] [(.int (1 : Int32))]))
                exact Go.retZ X22 hx hlk hret (by decide) (hb hby at_334) (fun U hU hF => hP U _ _ ⟨rfl, N22⟩ ⟨hF.1, hF.2.1, hF.2.2.mono (by decide) (by decide)⟩)
              refine Go.s (fun kz => XT.lload X22.here hx rfl (hb hby at_215) rfl kz) ?_
              refine Go.s (fun kz => XT.lconst X22.here hx rfl (hb hby at_217) kz) ?_
              refine Go.s (fun kz => XT.lcmp X22.here hx rfl (hb hby at_218) rfl kz) ?_
              show Go p.tables e below P (T22.setTop (mkF m 219 #[.val (.int p0), .val (.int p1), .val (.int p2), .val (.int p3), .val (.long tt), .second, .val (.int (2 : Int32)), .val (.int s0), .val (.int s1), .val (.int c2), t3, .val (.ref b11), .val (.ref b16), .val (.long ((own_f4 tt (86400 : Int64)) * (86400 : Int64) + s1.toInt64)), .second, .val (.long (tt % (86400 : Int64))), .second, .unset, .unset, .unset, .unset] [(.int (XT.cmpL (tt % (86400 : Int64)) (0 : Int64)))]))
              by_cases hc219 : (tt % (86400 : Int64)) < (0 : Int64)
              · skip
                refine Go.s (fun kz => XS.ifNo X22.here hx rfl (hb hby at_219) rfl (XT.ll_ge_f hc219) kz) ?_
                show Go p.tables e below P (T22.setTop (mkF m 222 #[.val (.int p0), .val (.int p1), .val (.int p2), .val (.int p3), .val (.long tt), .second, .val (.int (2 : Int32)), .val (.int s0), .val (.int s1), .val (.int c2), t3, .val (.ref b11), .val (.ref b16), .val (.long ((own_f4 tt (86400 : Int64)) * (86400 : Int64) + s1.toInt64)), .second, .val (.long (tt % (86400 : Int64))), .second, .unset, .unset, .unset, .unset] []))
                refine Go.s (fun kz => XT.lload X22.here hx rfl (hb hby at_222) rfl kz) ?_
                refine Go.s (fun kz => X22.ldc2J hx hown (mvT hZ (hw _ (List.mem_of_getElem? (i := 38) rfl))) rfl (hb hby at_224) kz) ?_
                refine Go.s (fun kz => XT.ladd X22.here hx rfl (hb hby at_227) rfl kz) ?_
                refine Go.s (fun kz => XT.lstore X22.here hx rfl (hb hby at_228) rfl (l' := #[.val (.int p0), .val (.int p1), .val (.int p2), .val (.int p3), .val (.long tt), .second, .val (.int (2 : Int32)), .val (.int s0), .val (.int s1), .val (.int c2), t3, .val (.ref b11), .val (.ref b16), .val (.long ((own_f4 tt (86400 : Int64)) * (86400 : Int64) + s1.toInt64)), .second, .val (.long ((tt % (86400 : Int64)) + (86400 : Int64))), .second, .unset, .unset, .unset, .unset]) rfl kz) ?_
                show Go p.tables e below P (T22.setTop (mkF m 230 #[.val (.int p0), .val (.int p1), .val (.int p2), .val (.int p3), .val (.long tt), .second, .val (.int (2 : Int32)), .val (.int s0), .val (.int s1), .val (.int c2), t3, .val (.ref b11), .val (.ref b16), .val (.long ((own_f4 tt (86400 : Int64)) * (86400 : Int64) + s1.toInt64)), .second, .val (.long ((tt % (86400 : Int64)) + (86400 : Int64))), .second, .unset, .unset, .unset, .unset] []))
                exact J230 ((tt % (86400 : Int64)) + (86400 : Int64)) ((own_rr tt).2 hc219)
              · skip
                refine Go.s (fun kz => XS.ifYes X22.here hx rfl (pc0 := 219) (pc' := 230) rfl (hb hby at_219) rfl (XT.ll_ge_t hc219) (by decide) (by decide) kz) ?_
                show Go p.tables e below P (T22.setTop (mkF m 230 #[.val (.int p0), .val (.int p1), .val (.int p2), .val (.int p3), .val (.long tt), .second, .val (.int (2 : Int32)), .val (.int s0), .val (.int s1), .val (.int c2), t3, .val (.ref b11), .val (.ref b16), .val (.long ((own_f4 tt (86400 : Int64)) * (86400 : Int64) + s1.toInt64)), .second, .val (.long (tt % (86400 : Int64))), .second, .unset, .unset, .unset, .unset] []))
                exact J230 (tt % (86400 : Int64)) ((own_rr tt).1 hc219)
            · skip
              refine Go.s (fun {t} => st22) ?_
              show Go p.tables e below P (T22.setTop (mkF m 205 #[.val (.int p0), .val (.int p1), .val (.int p2), .val (.int p3), .val (.long tt), .second, .val (.int (2 : Int32)), .val (.int s0), .val (.int s1), .val (.int c2), t3, .val (.ref b11), .val (.ref b16), .unset, .unset, .unset, .unset, .unset, .unset, .unset, .unset] [(.long ((own_f4 tt (86400 : Int64)) * (86400 : Int64) + s1.toInt64))]))
              have hk := own_key tt
              have c2' : (2 : Int32).toInt = 2 := rfl
              have m0 := k0
              rw [Int32.lt_iff_toInt_lt, hk] at m0
              have m1 := k1
              rw [Int32.lt_iff_toInt_lt, hk] at m1
              have m2 := k2
              rw [Int32.lt_iff_toInt_lt, hk] at m2
              refine Go.s (fun kz => XT.lstore X22.here hx rfl (hb hby at_205) rfl (l' := #[.val (.int p0), .val (.int p1), .val (.int p2), .val (.int p3), .val (.long tt), .second, .val (.int (2 : Int32)), .val (.int s0), .val (.int s1), .val (.int c2), t3, .val (.ref b11), .val (.ref b16), .val (.long ((own_f4 tt (86400 : Int64)) * (86400 : Int64) + s1.toInt64)), .second, .unset, .unset, .unset, .unset, .unset, .unset]) rfl kz) ?_
              refine Go.s (fun kz => XT.lload X22.here hx rfl (hb hby at_207) rfl kz) ?_
              refine Go.s (fun kz => X22.ldc2J hx hown (mvT hZ (hw _ (List.mem_of_getElem? (i := 38) rfl))) rfl (hb hby at_209) kz) ?_
              show Go p.tables e below P (T22.setTop (mkF m 212 #[.val (.int p0), .val (.int p1), .val (.int p2), .val (.int p3), .val (.long tt), .second, .val (.int (2 : Int32)), .val (.int s0), .val (.int s1), .val (.int c2), t3, .val (.ref b11), .val (.ref b16), .val (.long ((own_f4 tt (86400 : Int64)) * (86400 : Int64) + s1.toInt64)), .second, .unset, .unset, .unset, .unset, .unset, .unset] [(.long (86400 : Int64)), (.long tt)]))
              refine Go.s (fun kz => lremM X22 hx rfl (hb hby at_212) rfl (by decide) kz) ?_
              refine Go.s (fun kz => XT.lstore X22.here hx rfl (hb hby at_213) rfl (l' := #[.val (.int p0), .val (.int p1), .val (.int p2), .val (.int p3), .val (.long tt), .second, .val (.int (2 : Int32)), .val (.int s0), .val (.int s1), .val (.int c2), t3, .val (.ref b11), .val (.ref b16), .val (.long ((own_f4 tt (86400 : Int64)) * (86400 : Int64) + s1.toInt64)), .second, .val (.long (tt % (86400 : Int64))), .second, .unset, .unset, .unset, .unset]) rfl kz) ?_
              show Go p.tables e below P (T22.setTop (mkF m 215 #[.val (.int p0), .val (.int p1), .val (.int p2), .val (.int p3), .val (.long tt), .second, .val (.int (2 : Int32)), .val (.int s0), .val (.int s1), .val (.int c2), t3, .val (.ref b11), .val (.ref b16), .val (.long ((own_f4 tt (86400 : Int64)) * (86400 : Int64) + s1.toInt64)), .second, .val (.long (tt % (86400 : Int64))), .second, .unset, .unset, .unset, .unset] []))
              have J230 : ∀ (rr : Int64) (hrr : rr.toInt = tt.toInt % 86400), Go p.tables e below P (T22.setTop (mkF m 230 #[.val (.int p0), .val (.int p1), .val (.int p2), .val (.int p3), .val (.long tt), .second, .val (.int (2 : Int32)), .val (.int s0), .val (.int s1), .val (.int c2), t3, .val (.ref b11), .val (.ref b16), .val (.long ((own_f4 tt (86400 : Int64)) * (86400 : Int64) + s1.toInt64)), .second, .val (.long rr), .second, .unset, .unset, .unset, .unset] [])) := by
                intro rr hrr
                refine Go.s (fun kz => XT.lload X22.here hx rfl (hb hby at_230) rfl kz) ?_
                refine Go.s (fun kz => XT.lload X22.here hx rfl (hb hby at_232) rfl kz) ?_
                refine Go.s (fun kz => XT.lsub X22.here hx rfl (hb hby at_234) rfl kz) ?_
                refine Go.s (fun kz => XT.lstore X22.here hx rfl (hb hby at_235) rfl (l' := #[.val (.int p0), .val (.int p1), .val (.int p2), .val (.int p3), .val (.long tt), .second, .val (.int (2 : Int32)), .val (.int s0), .val (.int s1), .val (.int c2), t3, .val (.ref b11), .val (.ref b16), .val (.long ((own_f4 tt (86400 : Int64)) * (86400 : Int64) + s1.toInt64)), .second, .val (.long rr), .second, .val (.long (tt - rr)), .second, .unset, .unset]) rfl kz) ?_
                refine Go.s (fun kz => XT.lload X22.here hx rfl (hb hby at_237) rfl kz) ?_
                refine Go.s (fun kz => XS.iload X22.here hx rfl (hb hby at_239) rfl kz) ?_
                show Go p.tables e below P (T22.setTop (mkF m 241 #[.val (.int p0), .val (.int p1), .val (.int p2), .val (.int p3), .val (.long tt), .second, .val (.int (2 : Int32)), .val (.int s0), .val (.int s1), .val (.int c2), t3, .val (.ref b11), .val (.ref b16), .val (.long ((own_f4 tt (86400 : Int64)) * (86400 : Int64) + s1.toInt64)), .second, .val (.long rr), .second, .val (.long (tt - rr)), .second, .unset, .unset] [(.int s0), (.long rr)]))
                refine Go.s (fun kz => XT.i2l X22.here hx rfl (hb hby at_241) rfl kz) ?_
                refine Go.s (fun kz => XT.lcmp X22.here hx rfl (hb hby at_242) rfl kz) ?_
                show Go p.tables e below P (T22.setTop (mkF m 243 #[.val (.int p0), .val (.int p1), .val (.int p2), .val (.int p3), .val (.long tt), .second, .val (.int (2 : Int32)), .val (.int s0), .val (.int s1), .val (.int c2), t3, .val (.ref b11), .val (.ref b16), .val (.long ((own_f4 tt (86400 : Int64)) * (86400 : Int64) + s1.toInt64)), .second, .val (.long rr), .second, .val (.long (tt - rr)), .second, .unset, .unset] [(.int (XT.cmpL rr s0.toInt64))]))
                refine Go.s (fun kz => XS.ifYes X22.here hx rfl (pc0 := 243) (pc' := 257) rfl (hb hby at_243) rfl (XT.ll_gt_t (by have z104 := hc104; rw [← Int32.toInt_inj] at z104; rw [Int64.lt_iff_toInt_lt, Jvm.Kit.i64_of_i32]; omega)) (by decide) (by decide) kz) ?_
                show Go p.tables e below P (T22.setTop (mkF m 257 #[.val (.int p0), .val (.int p1), .val (.int p2), .val (.int p3), .val (.long tt), .second, .val (.int (2 : Int32)), .val (.int s0), .val (.int s1), .val (.int c2), t3, .val (.ref b11), .val (.ref b16), .val (.long ((own_f4 tt (86400 : Int64)) * (86400 : Int64) + s1.toInt64)), .second, .val (.long rr), .second, .val (.long (tt - rr)), .second, .unset, .unset] []))
                refine Go.s (fun kz => XS.iload X22.here hx rfl (hb hby at_257) rfl kz) ?_
                refine Go.s (fun kz => XS.iconst X22.here hx rfl (hb hby at_259) kz) ?_
                show Go p.tables e below P (T22.setTop (mkF m 260 #[.val (.int p0), .val (.int p1), .val (.int p2), .val (.int p3), .val (.long tt), .second, .val (.int (2 : Int32)), .val (.int s0), .val (.int s1), .val (.int c2), t3, .val (.ref b11), .val (.ref b16), .val (.long ((own_f4 tt (86400 : Int64)) * (86400 : Int64) + s1.toInt64)), .second, .val (.long rr), .second, .val (.long (tt - rr)), .second, .unset, .unset] [(.int (2 : Int32)), (.int (2 : Int32))]))
                refine Go.s (fun kz => XS.icmpNo X22.here hx rfl (hb hby at_260) rfl (XT.ii_lt_f (by decide)) kz) ?_
                show Go p.tables e below P (T22.setTop (mkF m 263 #[.val (.int p0), .val (.int p1), .val (.int p2), .val (.int p3), .val (.long tt), .second, .val (.int (2 : Int32)), .val (.int s0), .val (.int s1), .val (.int c2), t3, .val (.ref b11), .val (.ref b16), .val (.long ((own_f4 tt (86400 : Int64)) * (86400 : Int64) + s1.toInt64)), .second, .val (.long rr), .second, .val (.long (tt - rr)), .second, .unset, .unset] []))
                refine Go.s (fun kz => XT.lload X22.here hx rfl (hb hby at_263) rfl kz) ?_
                refine Go.s (fun kz => XS.iload X22.here hx rfl (hb hby at_265) rfl kz) ?_
                refine Go.s (fun kz => XT.i2l X22.here hx rfl (hb hby at_267) rfl kz) ?_
                refine Go.s (fun kz => XT.lcmp X22.here hx rfl (hb hby at_268) rfl kz) ?_
                show Go p.tables e below P (T22.setTop (mkF m 269 #[.val (.int p0), .val (.int p1), .val (.int p2), .val (.int p3), .val (.long tt), .second, .val (.int (2 : Int32)), .val (.int s0), .val (.int s1), .val (.int c2), t3, .val (.ref b11), .val (.ref b16), .val (.long ((own_f4 tt (86400 : Int64)) * (86400 : Int64) + s1.toInt64)), .second, .val (.long rr), .second, .val (.long (tt - rr)), .second, .unset, .unset] [(.int (XT.cmpL rr s1.toInt64))]))
                refine Go.s (fun kz => XS.ifNo X22.here hx rfl (hb hby at_269) rfl (XT.ll_gt_f (by have z104 := hc104; rw [← Int32.toInt_inj] at z104; rw [Int64.lt_iff_toInt_lt, Jvm.Kit.i64_of_i32]; omega)) kz) ?_
                show Go p.tables e below P (T22.setTop (mkF m 272 #[.val (.int p0), .val (.int p1), .val (.int p2), .val (.int p3), .val (.long tt), .second, .val (.int (2 : Int32)), .val (.int s0), .val (.int s1), .val (.int c2), t3, .val (.ref b11), .val (.ref b16), .val (.long ((own_f4 tt (86400 : Int64)) * (86400 : Int64) + s1.toInt64)), .second, .val (.long rr), .second, .val (.long (tt - rr)), .second, .unset, .unset] []))
                refine Go.s (fun kz => XT.lload X22.here hx rfl (hb hby at_272) rfl kz) ?_
                refine Go.s (fun kz => XS.iload X22.here hx rfl (hb hby at_274) rfl kz) ?_
                refine Go.s (fun kz => XT.i2l X22.here hx rfl (hb hby at_276) rfl kz) ?_
                refine Go.s (fun kz => XT.ladd X22.here hx rfl (hb hby at_277) rfl kz) ?_
                refine Go.s (fun kz => XT.lstore X22.here hx rfl (hb hby at_278) rfl (l' := #[.val (.int p0), .val (.int p1), .val (.int p2), .val (.int p3), .val (.long tt), .second, .val (.int (2 : Int32)), .val (.int s0), .val (.int s1), .val (.int c2), t3, .val (.ref b11), .val (.ref b16), .val (.long ((own_f4 tt (86400 : Int64)) * (86400 : Int64) + s1.toInt64)), .second, .val (.long rr), .second, .val (.long (tt - rr)), .second, .val (.long ((tt - rr) + s1.toInt64)), .second]) rfl kz) ?_
                refine Go.s (fun kz => XS.goto X22.here hx rfl (pc0 := 280) (pc' := 321) rfl (hb hby at_280) (by decide) (by decide) kz) ?_
                show Go p.tables e below P (T22.setTop (mkF m 321 #[.val (.int p0), .val (.int p1), .val (.int p2), .val (.int p3), .val (.long tt), .second, .val (.int (2 : Int32)), .val (.int s0), .val (.int s1), .val (.int c2), t3, .val (.ref b11), .val (.ref b16), .val (.long ((own_f4 tt (86400 : Int64)) * (86400 : Int64) + s1.toInt64)), .second, .val (.long rr), .second, .val (.long (tt - rr)), .second, .val (.long ((tt - rr) + s1.toInt64)), .second] []))
                refine Go.s (fun kz => XT.lload X22.here hx rfl (hb hby at_321) rfl kz) ?_
                show Go p.tables e below P (T22.setTop (mkF m 323 #[.val (.int p0), .val (.int p1), .val (.int p2), .val (.int p3), .val (.long tt), .second, .val (.int (2 : Int32)), .val (.int s0), .val (.int s1), .val (.int c2), t3, .val (.ref b11), .val (.ref b16), .val (.long ((own_f4 tt (86400 : Int64)) * (86400 : Int64) + s1.toInt64)), .second, .val (.long rr), .second, .val (.long (tt - rr)), .second, .val (.long ((tt - rr) + s1.toInt64)), .second] [(.long ((own_f4 tt (86400 : Int64)) * (86400 : Int64) + s1.toInt64))]))
                refine Go.s (fun kz => XT.lload X22.here hx rfl (hb hby at_323) rfl kz) ?_
                refine Go.s (fun kz => XT.lcmp X22.here hx rfl (hb hby at_325) rfl kz) ?_
                show Go p.tables e below P (T22.setTop (mkF m 326 #[.val (.int p0), .val (.int p1), .val (.int p2), .val (.int p3), .val (.long tt), .second, .val (.int (2 : Int32)), .val (.int s0), .val (.int s1), .val (.int c2), t3, .val (.ref b11), .val (.ref b16), .val (.long ((own_f4 tt (86400 : Int64)) * (86400 : Int64) + s1.toInt64)), .second, .val (.long rr), .second, .val (.long (tt - rr)), .second, .val (.long ((tt - rr) + s1.toInt64)), .second] [(.int (XT.cmpL ((own_f4 tt (86400 : Int64)) * (86400 : Int64) + s1.toInt64) ((tt - rr) + s1.toInt64)))]))
                refine Go.s (fun kz => XS.ifNo X22.here hx rfl (hb hby at_326) rfl (XT.ll_ne_f (own_got tt rr s1 hrr)) kz) ?_
                show Go p.tables e below P (T22.setTop (mkF m 329 #[.val (.int p0), .val (.int p1), .val (.int p2), .val (.int p3), .val (.long tt), .second, .val (.int (2 : Int32)), .val (.int s0), .val (.int s1), .val (.int c2), t3, .val (.ref b11), .val (.ref b16), .val (.long ((own_f4 tt (86400 : Int64)) * (86400 : Int64) + s1.toInt64)), .second, .val (.long rr), .second, .val (.long (tt - rr)), .second, .val (.long ((tt - rr) + s1.toInt64)), .second] []))
                refine Go.s (fun kz => XS.iconst X22.here hx rfl (hb hby at_329) kz) ?_
                refine Go.s (fun kz => XS.goto X22.here hx rfl (pc0 := 330) (pc' := 334) rfl (hb hby at_330) (by decide) (by decide) kz) ?_
                show Go p.tables e below P (T22.setTop (mkF m 334 #[.val (.int p0), .val (.int p1), .val (.int p2), .val (.int p3), .val (.long tt), .second, .val (.int (2 : Int32)), .val (.int s0), .val (.int s1), .val (.int c2), t3, .val (.ref b11), .val (.ref b16), .val (.long ((own_f4 tt (86400 : Int64)) * (86400 : Int64) + s1.toInt64)), .second, .val (.long rr), .second, .val (.long (tt - rr)), .second, .val (.long ((tt - rr) + s1.toInt64)), .second] [(.int (1 : Int32))]))
                exact Go.retZ X22 hx hlk hret (by decide) (hb hby at_334) (fun U hU hF => hP U _ _ ⟨rfl, N22⟩ ⟨hF.1, hF.2.1, hF.2.2.mono (by decide) (by decide)⟩)
              refine Go.s (fun kz => XT.lload X22.here hx rfl (hb hby at_215) rfl kz) ?_
              refine Go.s (fun kz => XT.lconst X22.here hx rfl (hb hby at_217) kz) ?_
              refine Go.s (fun kz => XT.lcmp X22.here hx rfl (hb hby at_218) rfl kz) ?_
              show Go p.tables e below P (T22.setTop (mkF m 219 #[.val (.int p0), .val (.int p1), .val (.int p2), .val (.int p3), .val (.long tt), .second, .val (.int (2 : Int32)), .val (.int s0), .val (.int s1), .val (.int c2), t3, .val (.ref b11), .val (.ref b16), .val (.long ((own_f4 tt (86400 : Int64)) * (86400 : Int64) + s1.toInt64)), .second, .val (.long (tt % (86400 : Int64))), .second, .unset, .unset, .unset, .unset] [(.int (XT.cmpL (tt % (86400 : Int64)) (0 : Int64)))]))
              by_cases hc219 : (tt % (86400 : Int64)) < (0 : Int64)
              · skip
                refine Go.s (fun kz => XS.ifNo X22.here hx rfl (hb hby at_219) rfl (XT.ll_ge_f hc219) kz) ?_
                show Go p.tables e below P (T22.setTop (mkF m 222 #[.val (.int p0), .val (.int p1), .val (.int p2), .val (.int p3), .val (.long tt), .second, .val (.int (2 : Int32)), .val (.int s0), .val (.int s1), .val (.int c2), t3, .val (.ref b11), .val (.ref b16), .val (.long ((own_f4 tt (86400 : Int64)) * (86400 : Int64) + s1.toInt64)), .second, .val (.long (tt % (86400 : Int64))), .second, .unset, .unset, .unset, .unset] []))
                refine Go.s (fun kz => XT.lload X22.here hx rfl (hb hby at_222) rfl kz) ?_
                refine Go.s (fun kz => X22.ldc2J hx hown (mvT hZ (hw _ (List.mem_of_getElem? (i := 38) rfl))) rfl (hb hby at_224) kz) ?_
                refine Go.s (fun kz => XT.ladd X22.here hx rfl (hb hby at_227) rfl kz) ?_
                refine Go.s (fun kz => XT.lstore X22.here hx rfl (hb hby at_228) rfl (l' := #[.val (.int p0), .val (.int p1), .val (.int p2), .val (.int p3), .val (.long tt), .second, .val (.int (2 : Int32)), .val (.int s0), .val (.int s1), .val (.int c2), t3, .val (.ref b11), .val (.ref b16), .val (.long ((own_f4 tt (86400 : Int64)) * (86400 : Int64) + s1.toInt64)), .second, .val (.long ((tt % (86400 : Int64)) + (86400 : Int64))), .second, .unset, .unset, .unset, .unset]) rfl kz) ?_
                show Go p.tables e below P (T22.setTop (mkF m 230 #[.val (.int p0), .val (.int p1), .val (.int p2), .val (.int p3), .val (.long tt), .second, .val (.int (2 : Int32)), .val (.int s0), .val (.int s1), .val (.int c2), t3, .val (.ref b11), .val (.ref b16), .val (.long ((own_f4 tt (86400 : Int64)) * (86400 : Int64) + s1.toInt64)), .second, .val (.long ((tt % (86400 : Int64)) + (86400 : Int64))), .second, .unset, .unset, .unset, .unset] []))
                exact J230 ((tt % (86400 : Int64)) + (86400 : Int64)) ((own_rr tt).2 hc219)
              · skip
                refine Go.s (fun kz => XS.ifYes X22.here hx rfl (pc0 := 219) (pc' := 230) rfl (hb hby at_219) rfl (XT.ll_ge_t hc219) (by decide) (by decide) kz) ?_
                show Go p.tables e below P (T22.setTop (mkF m 230 #[.val (.int p0), .val (.int p1), .val (.int p2), .val (.int p3), .val (.long tt), .second, .val (.int (2 : Int32)), .val (.int s0), .val (.int s1), .val (.int c2), t3, .val (.ref b11), .val (.ref b16), .val (.long ((own_f4 tt (86400 : Int64)) * (86400 : Int64) + s1.toInt64)), .second, .val (.long (tt % (86400 : Int64))), .second, .unset, .unset, .unset, .unset] []))
                exact J230 (tt % (86400 : Int64)) ((own_rr tt).1 hc219)
            · skip
              refine Go.s (fun {t} => st22) ?_
              show Go p.tables e below P (T22.setTop (mkF m 205 #[.val (.int p0), .val (.int p1), .val (.int p2), .val (.int p3), .val (.long tt), .second, .val (.int (2 : Int32)), .val (.int s0), .val (.int s1), .val (.int c2), t3, .val (.ref b11), .val (.ref b16), .unset, .unset, .unset, .unset, .unset, .unset, .unset, .unset] [(.long ((own_f4 tt (86400 : Int64)) * (86400 : Int64) + s0.toInt64))]))
              have hk := own_key tt
              have c2' : (2 : Int32).toInt = 2 := rfl
              have m0 := k0
              rw [Int32.lt_iff_toInt_lt, hk] at m0
              have m1 := k1
              rw [Int32.lt_iff_toInt_lt, hk] at m1
              refine Go.s (fun kz => XT.lstore X22.here hx rfl (hb hby at_205) rfl (l' := #[.val (.int p0), .val (.int p1), .val (.int p2), .val (.int p3), .val (.long tt), .second, .val (.int (2 : Int32)), .val (.int s0), .val (.int s1), .val (.int c2), t3, .val (.ref b11), .val (.ref b16), .val (.long ((own_f4 tt (86400 : Int64)) * (86400 : Int64) + s0.toInt64)), .second, .unset, .unset, .unset, .unset, .unset, .unset]) rfl kz) ?_
              refine Go.s (fun kz => XT.lload X22.here hx rfl (hb hby at_207) rfl kz) ?_
              refine Go.s (fun kz => X22.ldc2J hx hown (mvT hZ (hw _ (List.mem_of_getElem? (i := 38) rfl))) rfl (hb hby at_209) kz) ?_
              show Go p.tables e below P (T22.setTop (mkF m 212 #[.val (.int p0), .val (.int p1), .val (.int p2), .val (.int p3), .val (.long tt), .second, .val (.int (2 : Int32)), .val (.int s0), .val (.int s1), .val (.int c2), t3, .val (.ref b11), .val (.ref b16), .val (.long ((own_f4 tt (86400 : Int64)) * (86400 : Int64) + s0.toInt64)), .second, .unset, .unset, .unset, .unset, .unset, .unset] [(.long (86400 : Int64)), (.long tt)]))
              refine Go.s (fun kz => lremM X22 hx rfl (hb hby at_212) rfl (by decide) kz) ?_
              refine Go.s (fun kz => XT.lstore X22.here hx rfl (hb hby at_213) rfl (l' := #[.val (.int p0), .val (.int p1), .val (.int p2), .val (.int p3), .val (.long tt), .second, .val (.int (2 : Int32)), .val (.int s0), .val (.int s1), .val (.int c2), t3, .val (.ref b11), .val (.ref b16), .val (.long ((own_f4 tt (86400 : Int64)) * (86400 : Int64) + s0.toInt64)), .second, .val (.long (tt % (86400 : Int64))), .second, .unset, .unset, .unset, .unset]) rfl kz) ?_
              show Go p.tables e below P (T22.setTop (mkF m 215 #[.val (.int p0), .val (.int p1), .val (.int p2), .val (.int p3), .val (.long tt), .second, .val (.int (2 : Int32)), .val (.int s0), .val (.int s1), .val (.int c2), t3, .val (.ref b11), .val (.ref b16), .val (.long ((own_f4 tt (86400 : Int64)) * (86400 : Int64) + s0.toInt64)), .second, .val (.long (tt % (86400 : Int64))), .second, .unset, .unset, .unset, .unset] []))
              have J230 : ∀ (rr : Int64) (hrr : rr.toInt = tt.toInt % 86400), Go p.tables e below P (T22.setTop (mkF m 230 #[.val (.int p0), .val (.int p1), .val (.int p2), .val (.int p3), .val (.long tt), .second, .val (.int (2 : Int32)), .val (.int s0), .val (.int s1), .val (.int c2), t3, .val (.ref b11), .val (.ref b16), .val (.long ((own_f4 tt (86400 : Int64)) * (86400 : Int64) + s0.toInt64)), .second, .val (.long rr), .second, .unset, .unset, .unset, .unset] [])) := by
                intro rr hrr
                refine Go.s (fun kz => XT.lload X22.here hx rfl (hb hby at_230) rfl kz) ?_
                refine Go.s (fun kz => XT.lload X22.here hx rfl (hb hby at_232) rfl kz) ?_
                refine Go.s (fun kz => XT.lsub X22.here hx rfl (hb hby at_234) rfl kz) ?_
                refine Go.s (fun kz => XT.lstore X22.here hx rfl (hb hby at_235) rfl (l' := #[.val (.int p0), .val (.int p1), .val (.int p2), .val (.int p3), .val (.long tt), .second, .val (.int (2 : Int32)), .val (.int s0), .val (.int s1), .val (.int c2), t3, .val (.ref b11), .val (.ref b16), .val (.long ((own_f4 tt (86400 : Int64)) * (86400 : Int64) + s0.toInt64)), .second, .val (.long rr), .second, .val (.long (tt - rr)), .second, .unset, .unset]) rfl kz) ?_
                refine Go.s (fun kz => XT.lload X22.here hx rfl (hb hby at_237) rfl kz) ?_
                refine Go.s (fun kz => XS.iload X22.here hx rfl (hb hby at_239) rfl kz) ?_
                show Go p.tables e below P (T22.setTop (mkF m 241 #[.val (.int p0), .val (.int p1), .val (.int p2), .val (.int p3), .val (.long tt), .second, .val (.int (2 : Int32)), .val (.int s0), .val (.int s1), .val (.int c2), t3, .val (.ref b11), .val (.ref b16), .val (.long ((own_f4 tt (86400 : Int64)) * (86400 : Int64) + s0.toInt64)), .second, .val (.long rr), .second, .val (.long (tt - rr)), .second, .unset, .unset] [(.int s0), (.long rr)]))
                refine Go.s (fun kz => XT.i2l X22.here hx rfl (hb hby at_241) rfl kz) ?_
                refine Go.s (fun kz => XT.lcmp X22.here hx rfl (hb hby at_242) rfl kz) ?_
                show Go p.tables e below P (T22.setTop (mkF m 243 #[.val (.int p0), .val (.int p1), .val (.int p2), .val (.int p3), .val (.long tt), .second, .val (.int (2 : Int32)), .val (.int s0), .val (.int s1), .val (.int c2), t3, .val (.ref b11), .val (.ref b16), .val (.long ((own_f4 tt (86400 : Int64)) * (86400 : Int64) + s0.toInt64)), .second, .val (.long rr), .second, .val (.long (tt - rr)), .second, .unset, .unset] [(.int (XT.cmpL rr s0.toInt64))]))
                refine Go.s (fun kz => XS.ifNo X22.here hx rfl (hb hby at_243) rfl (XT.ll_gt_f (by have z104 := hc104; rw [← Int32.toInt_inj] at z104; rw [Int64.lt_iff_toInt_lt, Jvm.Kit.i64_of_i32]; omega)) kz) ?_
                show Go p.tables e below P (T22.setTop (mkF m 246 #[.val (.int p0), .val (.int p1), .val (.int p2), .val (.int p3), .val (.long tt), .second, .val (.int (2 : Int32)), .val (.int s0), .val (.int s1), .val (.int c2), t3, .val (.ref b11), .val (.ref b16), .val (.long ((own_f4 tt (86400 : Int64)) * (86400 : Int64) + s0.toInt64)), .second, .val (.long rr), .second, .val (.long (tt - rr)), .second, .unset, .unset] []))
                refine Go.s (fun kz => XT.lload X22.here hx rfl (hb hby at_246) rfl kz) ?_
                refine Go.s (fun kz => XS.iload X22.here hx rfl (hb hby at_248) rfl kz) ?_
                refine Go.s (fun kz => XT.i2l X22.here hx rfl (hb hby at_250) rfl kz) ?_
                refine Go.s (fun kz => XT.ladd X22.here hx rfl (hb hby at_251) rfl kz) ?_
                refine Go.s (fun kz => XT.lstore X22.here hx rfl (hb hby at_252) rfl (l' := #[.val (.int p0), .val (.int p1), .val (.int p2), .val (.int p3), .val (.long tt), .second, .val (.int (2 : Int32)), .val (.int s0), .val (.int s1), .val (.int c2), t3, .val (.ref b11), .val (.ref b16), .val (.long ((own_f4 tt (86400 : Int64)) * (86400 : Int64) + s0.toInt64)), .second, .val (.long rr), .second, .val (.long (tt - rr)), .second, .val (.long ((tt - rr) + s0.toInt64)), .second]) rfl kz) ?_
                refine Go.s (fun kz => XS.goto X22.here hx rfl (pc0 := 254) (pc' := 321) rfl (hb hby at_254) (by decide) (by decide) kz) ?_
                show Go p.tables e below P (T22.setTop (mkF m 321 #[.val (.int p0), .val (.int p1), .val (.int p2), .val (.int p3), .val (.long tt), .second, .val (.int (2 : Int32)), .val (.int s0), .val (.int s1), .val (.int c2), t3, .val (.ref b11), .val (.ref b16), .val (.long ((own_f4 tt (86400 : Int64)) * (86400 : Int64) + s0.toInt64)), .second, .val (.long rr), .second, .val (.long (tt - rr)), .second, .val (.long ((tt - rr) + s0.toInt64)), .second] []))
                refine Go.s (fun kz => XT.lload X22.here hx rfl (hb hby at_321) rfl kz) ?_
                show Go p.tables e below P (T22.setTop (mkF m 323 #[.val (.int p0), .val (.int p1), .val (.int p2), .val (.int p3), .val (.long tt), .second, .val (.int (2 : Int32)), .val (.int s0), .val (.int s1), .val (.int c2), t3, .val (.ref b11), .val (.ref b16), .val (.long ((own_f4 tt (86400 : Int64)) * (86400 : Int64) + s0.toInt64)), .second, .val (.long rr), .second, .val (.long (tt - rr)), .second, .val (.long ((tt - rr) + s0.toInt64)), .second] [(.long ((own_f4 tt (86400 : Int64)) * (86400 : Int64) + s0.toInt64))]))
                refine Go.s (fun kz => XT.lload X22.here hx rfl (hb hby at_323) rfl kz) ?_
                refine Go.s (fun kz => XT.lcmp X22.here hx rfl (hb hby at_325) rfl kz) ?_
                show Go p.tables e below P (T22.setTop (mkF m 326 #[.val (.int p0), .val (.int p1), .val (.int p2), .val (.int p3), .val (.long tt), .second, .val (.int (2 : Int32)), .val (.int s0), .val (.int s1), .val (.int c2), t3, .val (.ref b11), .val (.ref b16), .val (.long ((own_f4 tt (86400 : Int64)) * (86400 : Int64) + s0.toInt64)), .second, .val (.long rr), .second, .val (.long (tt - rr)), .second, .val (.long ((tt - rr) + s0.toInt64)), .second] [(.int (XT.cmpL ((own_f4 tt (86400 : Int64)) * (86400 : Int64) + s0.toInt64) ((tt - rr) + s0.toInt64)))]))
                refine Go.s (fun kz => XS.ifNo X22.here hx rfl (hb hby at_326) rfl (XT.ll_ne_f (own_got tt rr s0 hrr)) kz) ?_
                show Go p.tables e below P (T22.setTop (mkF m 329 #[.val (.int p0), .val (.int p1), .val (.int p2), .val (.int p3), .val (.long tt), .second, .val (.int (2 : Int32)), .val (.int s0), .val (.int s1), .val (.int c2), t3, .val (.ref b11), .val (.ref b16), .val (.long ((own_f4 tt (86400 : Int64)) * (86400 : Int64) + s0.toInt64)), .second, .val (.long rr), .second, .val (.long (tt - rr)), .second, .val (.long ((tt - rr) + s0.toInt64)), .second] []))
                refine Go.s (fun kz => XS.iconst X22.here hx rfl (hb hby at_329) kz) ?_
                refine Go.s (fun kz => XS.goto X22.here hx rfl (pc0 := 330) (pc' := 334) rfl (hb hby at_330) (by decide) (by decide) kz) ?_
                show Go p.tables e below P (T22.setTop (mkF m 334 #[.val (.int p0), .val (.int p1), .val (.int p2), .val (.int p3), .val (.long tt), .second, .val (.int (2 : Int32)), .val (.int s0), .val (.int s1), .val (.int c2), t3, .val (.ref b11), .val (.ref b16), .val (.long ((own_f4 tt (86400 : Int64)) * (86400 : Int64) + s0.toInt64)), .second, .val (.long rr), .second, .val (.long (tt - rr)), .second, .val (.long ((tt - rr) + s0.toInt64)), .second] [(.int (1 : Int32))]))
                exact Go.retZ X22 hx hlk hret (by decide) (hb hby at_334) (fun U hU hF => hP U _ _ ⟨rfl, N22⟩ ⟨hF.1, hF.2.1, hF.2.2.mono (by decide) (by decide)⟩)
              refine Go.s (fun kz => XT.lload X22.here hx rfl (hb hby at_215) rfl kz) ?_
              refine Go.s (fun kz => XT.lconst X22.here hx rfl (hb hby at_217) kz) ?_
              refine Go.s (fun kz => XT.lcmp X22.here hx rfl (hb hby at_218) rfl kz) ?_
              show Go p.tables e below P (T22.setTop (mkF m 219 #[.val (.int p0), .val (.int p1), .val (.int p2), .val (.int p3), .val (.long tt), .second, .val (.int (2 : Int32)), .val (.int s0), .val (.int s1), .val (.int c2), t3, .val (.ref b11), .val (.ref b16), .val (.long ((own_f4 tt (86400 : Int64)) * (86400 : Int64) + s0.toInt64)), .second, .val (.long (tt % (86400 : Int64))), .second, .unset, .unset, .unset, .unset] [(.int (XT.cmpL (tt % (86400 : Int64)) (0 : Int64)))]))
              by_cases hc219 : (tt % (86400 : Int64)) < (0 : Int64)
              · skip
                refine Go.s (fun kz => XS.ifNo X22.here hx rfl (hb hby at_219) rfl (XT.ll_ge_f hc219) kz) ?_
                show Go p.tables e below P (T22.setTop (mkF m 222 #[.val (.int p0), .val (.int p1), .val (.int p2), .val (.int p3), .val (.long tt), .second, .val (.int (2 : Int32)), .val (.int s0), .val (.int s1), .val (.int c2), t3, .val (.ref b11), .val (.ref b16), .val (.long ((own_f4 tt (86400 : Int64)) * (86400 : Int64) + s0.toInt64)), .second, .val (.long (tt % (86400 : Int64))), .second, .unset, .unset, .unset, .unset] []))
                refine Go.s (fun kz => XT.lload X22.here hx rfl (hb hby at_222) rfl kz) ?_
                refine Go.s (fun kz => X22.ldc2J hx hown (mvT hZ (hw _ (List.mem_of_getElem? (i := 38) rfl))) rfl (hb hby at_224) kz) ?_
                refine Go.s (fun kz => XT.ladd X22.here hx rfl (hb hby at_227) rfl kz) ?_
                refine Go.s (fun kz => XT.lstore X22.here hx rfl (hb hby at_228) rfl (l' := #[.val (.int p0), .val (.int p1), .val (.int p2), .val (.int p3), .val (.long tt), .second, .val (.int (2 : Int32)), .val (.int s0), .val (.int s1), .val (.int c2), t3, .val (.ref b11), .val (.ref b16), .val (.long ((own_f4 tt (86400 : Int64)) * (86400 : Int64) + s0.toInt64)), .second, .val (.long ((tt % (86400 : Int64)) + (86400 : Int64))), .second, .unset, .unset, .unset, .unset]) rfl kz) ?_
                show Go p.tables e below P (T22.setTop (mkF m 230 #[.val (.int p0), .val (.int p1), .val (.int p2), .val (.int p3), .val (.long tt), .second, .val (.int (2 : Int32)), .val (.int s0), .val (.int s1), .val (.int c2), t3, .val (.ref b11), .val (.ref b16), .val (.long ((own_f4 tt (86400 : Int64)) * (86400 : Int64) + s0.toInt64)), .second, .val (.long ((tt % (86400 : Int64)) + (86400 : Int64))), .second, .unset, .unset, .unset, .unset] []))
                exact J230 ((tt % (86400 : Int64)) + (86400 : Int64)) ((own_rr tt).2 hc219)
              · skip
                refine Go.s (fun kz => XS.ifYes X22.here hx rfl (pc0 := 219) (pc' := 230) rfl (hb hby at_219) rfl (XT.ll_ge_t hc219) (by decide) (by decide) kz) ?_
                show Go p.tables e below P (T22.setTop (mkF m 230 #[.val (.int p0), .val (.int p1), .val (.int p2), .val (.int p3), .val (.long tt), .second, .val (.int (2 : Int32)), .val (.int s0), .val (.int s1), .val (.int c2), t3, .val (.ref b11), .val (.ref b16), .val (.long ((own_f4 tt (86400 : Int64)) * (86400 : Int64) + s0.toInt64)), .second, .val (.long (tt % (86400 : Int64))), .second, .unset, .unset, .unset, .unset] []))
                exact J230 (tt % (86400 : Int64)) ((own_rr tt).1 hc219)
            · skip
              refine Go.s (fun {t} => st22) ?_
              show Go p.tables e below P (T22.setTop (mkF m 205 #[.val (.int p0), .val (.int p1), .val (.int p2), .val (.int p3), .val (.long tt), .second, .val (.int (2 : Int32)), .val (.int s0), .val (.int s1), .val (.int c2), t3, .val (.ref b11), .val (.ref b16), .unset, .unset, .unset, .unset, .unset, .unset, .unset, .unset] [(.long ((own_f4 tt (86400 : Int64)) * (86400 : Int64) + s0.toInt64))]))
              have hk := own_key tt
              have c2' : (2 : Int32).toInt = 2 := rfl
              have m0 := k0
              rw [Int32.lt_iff_toInt_lt, hk] at m0
              have m1 := k1
              rw [Int32.lt_iff_toInt_lt, hk] at m1
              refine Go.s (fun kz => XT.lstore X22.here hx rfl (hb hby at_205) rfl (l' := #[.val (.int p0), .val (.int p1), .val (.int p2), .val (.int p3), .val (.long tt), .second, .val (.int (2 : Int32)), .val (.int s0), .val (.int s1), .val (.int c2), t3, .val (.ref b11), .val (.ref b16), .val (.long ((own_f4 tt (86400 : Int64)) * (86400 : Int64) + s0.toInt64)), .second, .unset, .unset, .unset, .unset, .unset, .unset]) rfl kz) ?_
              refine Go.s (fun kz => XT.lload X22.here hx rfl (hb hby at_207) rfl kz) ?_
              refine Go.s (fun kz => X22.ldc2J hx hown (mvT hZ (hw _ (List.mem_of_getElem? (i := 38) rfl))) rfl (hb hby at_209) kz) ?_
              show Go p.tables e below P (T22.setTop (mkF m 212 #[.val (.int p0), .val (.int p1), .val (.int p2), .val (.int p3), .val (.long tt), .second, .val (.int (2 : Int32)), .val (.int s0), .val (.int s1), .val (.int c2), t3, .val (.ref b11), .val (.ref b16), .val (.long ((own_f4 tt (86400 : Int64)) * (86400 : Int64) + s0.toInt64)), .second, .unset, .unset, .unset, .unset, .unset, .unset] [(.long (86400 : Int64)), (.long tt)]))
              refine Go.s (fun kz => lremM X22 hx rfl (hb hby at_212) rfl (by decide) kz) ?_
              refine Go.s (fun kz => XT.lstore X22.here hx rfl (hb hby at_213) rfl (l' := #[.val (.int p0), .val (.int p1), .val (.int p2), .val (.int p3), .val (.long tt), .second, .val (.int (2 : Int32)), .val (.int s0), .val (.int s1), .val (.int c2), t3, .val (.ref b11), .val (.ref b16), .val (.long ((own_f4 tt (86400 : Int64)) * (86400 : Int64) + s0.toInt64)), .second, .val (.long (tt % (86400 : Int64))), .second, .unset, .unset, .unset, .unset]) rfl kz) ?_
              show Go p.tables e below P (T22.setTop (mkF m 215 #[.val (.int p0), .val (.int p1), .val (.int p2), .val (.int p3), .val (.long tt), .second, .val (.int (2 : Int32)), .val (.int s0), .val (.int s1), .val (.int c2), t3, .val (.ref b11), .val (.ref b16), .val (.long ((own_f4 tt (86400 : Int64)) * (86400 : Int64) + s0.toInt64)), .second, .val (.long (tt % (86400 : Int64))), .second, .unset, .unset, .unset, .unset] []))
              have J230 : ∀ (rr : Int64) (hrr : rr.toInt = tt.toInt % 86400), Go p.tables e below P (T22.setTop (mkF m 230 #[.val (.int p0), .val (.int p1), .val (.int p2), .val (.int p3), .val (.long tt), .second, .val (.int (2 : Int32)), .val (.int s0), .val (.int s1), .val (.int c2), t3, .val (.ref b11), .val (.ref b16), .val (.long ((own_f4 tt (86400 : Int64)) * (86400 : Int64) + s0.toInt64)), .second, .val (.long rr), .second, .unset, .unset, .unset, .unset] [])) := by
                intro rr hrr
                refine Go.s (fun kz => XT.lload X22.here hx rfl (hb hby at_230) rfl kz) ?_
                refine Go.s (fun kz => XT.lload X22.here hx rfl (hb hby at_232) rfl kz) ?_
                refine Go.s (fun kz => XT.lsub X22.here hx rfl (hb hby at_234) rfl kz) ?_
                refine Go.s (fun kz => XT.lstore X22.here hx rfl (hb hby at_235) rfl (l' := #[.val (.int p0), .val (.int p1), .val (.int p2), .val (.int p3), .val (.long tt), .second, .val (.int (2 : Int32)), .val (.int s0), .val (.int s1), .val (.int c2), t3, .val (.ref b11), .val (.ref b16), .val (.long ((own_f4 tt (86400 : Int64)) * (86400 : Int64) + s0.toInt64)), .second, .val (.long rr), .second, .val (.long (tt - rr)), .second, .unset, .unset]) rfl kz) ?_
                refine Go.s (fun kz => XT.lload X22.here hx rfl (hb hby at_237) rfl kz) ?_
                refine Go.s (fun kz => XS.iload X22.here hx rfl (hb hby at_239) rfl kz) ?_
                show Go p.tables e below P (T22.setTop (mkF m 241 #[.val (.int p0), .val (.int p1), .val (.int p2), .val (.int p3), .val (.long tt), .second, .val (.int (2 : Int32)), .val (.int s0), .val (.int s1), .val (.int c2), t3, .val (.ref b11), .val (.ref b16), .val (.long ((own_f4 tt (86400 : Int64)) * (86400 : Int64) + s0.toInt64)), .second, .val (.long rr), .second, .val (.long (tt - rr)), .second, .unset, .unset] [(.int s0), (.long rr)]))
                refine Go.s (fun kz => XT.i2l X22.here hx rfl (hb hby at_241) rfl kz) ?_
                refine Go.s (fun kz => XT.lcmp X22.here hx rfl (hb hby at_242) rfl kz) ?_
                show Go p.tables e below P (T22.setTop (mkF m 243 #[.val (.int p0), .val (.int p1), .val (.int p2), .val (.int p3), .val (.long tt), .second, .val (.int (2 : Int32)), .val (.int s0), .val (.int s1), .val (.int c2), t3, .val (.ref b11), .val (.ref b16), .val (.long ((own_f4 tt (86400 : Int64)) * (86400 : Int64) + s0.toInt64)), .second, .val (.long rr), .second, .val (.long (tt - rr)), .second, .unset, .unset] [(.int (XT.cmpL rr s0.toInt64))]))
                refine Go.s (fun kz => XS.ifNo X22.here hx rfl (hb hby at_243) rfl (XT.ll_gt_f (by have z104 := hc104; rw [← Int32.toInt_inj] at z104; rw [Int64.lt_iff_toInt_lt, Jvm.Kit.i64_of_i32]; omega)) kz) ?_
                show Go p.tables e below P (T22.setTop (mkF m 246 #[.val (.int p0), .val (.int p1), .val (.int p2), .val (.int p3), .val (.long tt), .second, .val (.int (2 : Int32)), .val (.int s0), .val (.int s1), .val (.int c2), t3, .val (.ref b11), .val (.ref b16), .val (.long ((own_f4 tt (86400 : Int64)) * (86400 : Int64) + s0.toInt64)), .second, .val (.long rr), .second, .val (.long (tt - rr)), .second, .unset, .unset] []))
                refine Go.s (fun kz => XT.lload X22.here hx rfl (hb hby at_246) rfl kz) ?_
                refine Go.s (fun kz => XS.iload X22.here hx rfl (hb hby at_248) rfl kz) ?_
                refine Go.s (fun kz => XT.i2l X22.here hx rfl (hb hby at_250) rfl kz) ?_
                refine Go.s (fun kz => XT.ladd X22.here hx rfl (hb hby at_251) rfl kz) ?_
                refine Go.s (fun kz => XT.lstore X22.here hx rfl (hb hby at_252) rfl (l' := #[.val (.int p0), .val (.int p1), .val (.int p2), .val (.int p3), .val (.long tt), .second, .val (.int (2 : Int32)), .val (.int s0), .val (.int s1), .val (.int c2), t3, .val (.ref b11), .val (.ref b16), .val (.long ((own_f4 tt (86400 : Int64)) * (86400 : Int64) + s0.toInt64)), .second, .val (.long rr), .second, .val (.long (tt - rr)), .second, .val (.long ((tt - rr) + s0.toInt64)), .second]) rfl kz) ?_
                refine Go.s (fun kz => XS.goto X22.here hx rfl (pc0 := 254) (pc' := 321) rfl (hb hby at_254) (by decide) (by decide) kz) ?_
                show Go p.tables e below P (T22.setTop (mkF m 321 #[.val (.int p0), .val (.int p1), .val (.int p2), .val (.int p3), .val (.long tt), .second, .val (.int (2 : Int32)), .val (.int s0), .val (.int s1), .val (.int c2), t3, .val (.ref b11), .val (.ref b16), .val (.long ((own_f4 tt (86400 : Int64)) * (86400 : Int64) + s0.toInt64)), .second, .val (.long rr), .second, .val (.long (tt - rr)), .second, .val (.long ((tt - rr) + s0.toInt64)), .second] []))
                refine Go.s (fun kz => XT.lload X22.here hx rfl (hb hby at_321) rfl kz) ?_
                show Go p.tables e below P (T22.setTop (mkF m 323 #[.val (.int p0), .val (.int p1), .val (.int p2), .val (.int p3), .val (.long tt), .second, .val (.int (2 : Int32)), .val (.int s0), .val (.int s1), .val (.int c2), t3, .val (.ref b11), .val (.ref b16), .val (.long ((own_f4 tt (86400 : Int64)) * (86400 : Int64) + s0.toInt64)), .second, .val (.long rr), .second, .val (.long (tt - rr)), .second, .val (.long ((tt - rr) + s0.toInt64)), .second] [(.long ((own_f4 tt (86400 : Int64)) * (86400 : Int64) + s0.toInt64))]))
                refine Go.s (fun kz => XT.lload X22.here hx rfl (hb hby at_323) rfl kz) ?_
                refine Go.s (fun kz => XT.lcmp X22.here hx rfl (hb hby at_325) rfl kz) ?_
                show Go p.tables e below P (T22.setTop (mkF m 326 #[.val (.int p0), .val (.int p1), .val (.int p2), .val (.int p3), .val (.long tt), .second, .val (.int (2 : Int32)), .val (.int s0), .val (.int s1), .val (.int c2), t3, .val (.ref b11), .val (.ref b16), .val (.long ((own_f4 tt (86400 : Int64)) * (86400 : Int64) + s0.toInt64)), .second, .val (.long rr), .second, .val (.long (tt - rr)), .second, .val (.long ((tt - rr) + s0.toInt64)), .second] [(.int (XT.cmpL ((own_f4 tt (86400 : Int64)) * (86400 : Int64) + s0.toInt64) ((tt - rr) + s0.toInt64)))]))
                refine Go.s (fun kz => XS.ifNo X22.here hx rfl (hb hby at_326) rfl (XT.ll_ne_f (own_got tt rr s0 hrr)) kz) ?_
                show Go p.tables e below P (T22.setTop (mkF m 329 #[.val (.int p0), .val (.int p1), .val (.int p2), .val (.int p3), .val (.long tt), .second, .val (.int (2 : Int32)), .val (.int s0), .val (.int s1), .val (.int c2), t3, .val (.ref b11), .val (.ref b16), .val (.long ((own_f4 tt (86400 : Int64)) * (86400 : Int64) + s0.toInt64)), .second, .val (.long rr), .second, .val (.long (tt - rr)), .second, .val (.long ((tt - rr) + s0.toInt64)), .second] []))
                refine Go.s (fun kz => XS.iconst X22.here hx rfl (hb hby at_329) kz) ?_
                refine Go.s (fun kz => XS.goto X22.here hx rfl (pc0 := 330) (pc' := 334) rfl (hb hby at_330) (by decide) (by decide) kz) ?_
                show Go p.tables e below P (T22.setTop (mkF m 334 #[.val (.int p0), .val (.int p1), .val (.int p2), .val (.int p3), .val (.long tt), .second, .val (.int (2 : Int32)), .val (.int s0), .val (.int s1), .val (.int c2), t3, .val (.ref b11), .val (.ref b16), .val (.long ((own_f4 tt (86400 : Int64)) * (86400 : Int64) + s0.toInt64)), .second, .val (.long rr), .second, .val (.long (tt - rr)), .second, .val (.long ((tt - rr) + s0.toInt64)), .second] [(.int (1 : Int32))]))
                exact Go.retZ X22 hx hlk hret (by decide) (hb hby at_334) (fun U hU hF => hP U _ _ ⟨rfl, N22⟩ ⟨hF.1, hF.2.1, hF.2.2.mono (by decide) (by decide)⟩)
              refine Go.s (fun kz => XT.lload X22.here hx rfl (hb hby at_215) rfl kz) ?_
              refine Go.s (fun kz => XT.lconst X22.here hx rfl (hb hby at_217) kz) ?_
              refine Go.s (fun kz => XT.lcmp X22.here hx rfl (hb hby at_218) rfl kz) ?_
              show Go p.tables e below P (T22.setTop (mkF m 219 #[.val (.int p0), .val (.int p1), .val (.int p2), .val (.int p3), .val (.long tt), .second, .val (.int (2 : Int32)), .val (.int s0), .val (.int s1), .val (.int c2), t3, .val (.ref b11), .val (.ref b16), .val (.long ((own_f4 tt (86400 : Int64)) * (86400 : Int64) + s0.toInt64)), .second, .val (.long (tt % (86400 : Int64))), .second, .unset, .unset, .unset, .unset] [(.int (XT.cmpL (tt % (86400 : Int64)) (0 : Int64)))]))
              by_cases hc219 : (tt % (86400 : Int64)) < (0 : Int64)
              · skip
                refine Go.s (fun kz => XS.ifNo X22.here hx rfl (hb hby at_219) rfl (XT.ll_ge_f hc219) kz) ?_
                show Go p.tables e below P (T22.setTop (mkF m 222 #[.val (.int p0), .val (.int p1), .val (.int p2), .val (.int p3), .val (.long tt), .second, .val (.int (2 : Int32)), .val (.int s0), .val (.int s1), .val (.int c2), t3, .val (.ref b11), .val (.ref b16), .val (.long ((own_f4 tt (86400 : Int64)) * (86400 : Int64) + s0.toInt64)), .second, .val (.long (tt % (86400 : Int64))), .second, .unset, .unset, .unset, .unset] []))
                refine Go.s (fun kz => XT.lload X22.here hx rfl (hb hby at_222) rfl kz) ?_
                refine Go.s (fun kz => X22.ldc2J hx hown (mvT hZ (hw _ (List.mem_of_getElem? (i := 38) rfl))) rfl (hb hby at_224) kz) ?_
                refine Go.s (fun kz => XT.ladd X22.here hx rfl (hb hby at_227) rfl kz) ?_
                refine Go.s (fun kz => XT.lstore X22.here hx rfl (hb hby at_228) rfl (l' := #[.val (.int p0), .val (.int p1), .val (.int p2), .val (.int p3), .val (.long tt), .second, .val (.int (2 : Int32)), .val (.int s0), .val (.int s1), .val (.int c2), t3, .val (.ref b11), .val (.ref b16), .val (.long ((own_f4 tt (86400 : Int64)) * (86400 : Int64) + s0.toInt64)), .second, .val (.long ((tt % (86400 : Int64)) + (86400 : Int64))), .second, .unset, .unset, .unset, .unset]) rfl kz) ?_
                show Go p.tables e below P (T22.setTop (mkF m 230 #[.val (.int p0), .val (.int p1), .val (.int p2), .val (.int p3), .val (.long tt), .second, .val (.int (2 : Int32)), .val (.int s0), .val (.int s1), .val (.int c2), t3, .val (.ref b11), .val (.ref b16), .val (.long ((own_f4 tt (86400 : Int64)) * (86400 : Int64) + s0.toInt64)), .second, .val (.long ((tt % (86400 : Int64)) + (86400 : Int64))), .second, .unset, .unset, .unset, .unset] []))
                exact J230 ((tt % (86400 : Int64)) + (86400 : Int64)) ((own_rr tt).2 hc219)
              · skip
                refine Go.s (fun kz => XS.ifYes X22.here hx rfl (pc0 := 219) (pc' := 230) rfl (hb hby at_219) rfl (XT.ll_ge_t hc219) (by decide) (by decide) kz) ?_
                show Go p.tables e below P (T22.setTop (mkF m 230 #[.val (.int p0), .val (.int p1), .val (.int p2), .val (.int p3), .val (.long tt), .second, .val (.int (2 : Int32)), .val (.int s0), .val (.int s1), .val (.int c2), t3, .val (.ref b11), .val (.ref b16), .val (.long ((own_f4 tt (86400 : Int64)) * (86400 : Int64) + s0.toInt64)), .second, .val (.long (tt % (86400 : Int64))), .second, .unset, .unset, .unset, .unset] []))
                exact J230 (tt % (86400 : Int64)) ((own_rr tt).1 hc219)
        · skip
          show Go p.tables e below P (s₁.setTop (mkF m 94 #[.val (.int p0), .val (.int p1), .val (.int p2), .val (.int p3), .val (.long tt), .second, .val (.int (3 : Int32)), .val (.int s0), .val (.int s1), .val (.int c2), t3, .unset, .unset, .unset, .unset, .unset, .unset, .unset, .unset, .unset, .unset] []))
          refine Go.s (fun kz => XS.iload X0.here hx rfl (hb hby at_94) rfl kz) ?_
          refine Go.s (fun kz => XS.iconst X0.here hx rfl (hb hby at_96) kz) ?_
          show Go p.tables e below P (s₁.setTop (mkF m 97 #[.val (.int p0), .val (.int p1), .val (.int p2), .val (.int p3), .val (.long tt), .second, .val (.int (3 : Int32)), .val (.int s0), .val (.int s1), .val (.int c2), t3, .unset, .unset, .unset, .unset, .unset, .unset, .unset, .unset, .unset, .unset] [(.int (2 : Int32)), (.int (3 : Int32))]))
          refine Go.s (fun kz => XS.icmpNo X0.here hx rfl (hb hby at_97) rfl (XT.ii_lt_f (by decide)) kz) ?_
          show Go p.tables e below P (s₁.setTop (mkF m 100 #[.val (.int p0), .val (.int p1), .val (.int p2), .val (.int p3), .val (.long tt), .second, .val (.int (3 : Int32)), .val (.int s0), .val (.int s1), .val (.int c2), t3, .unset, .unset, .unset, .unset, .unset, .unset, .unset, .unset, .unset, .unset] []))
          refine Go.s (fun kz => XS.iload X0.here hx rfl (hb hby at_100) rfl kz) ?_
          refine Go.s (fun kz => XS.iload X0.here hx rfl (hb hby at_102) rfl kz) ?_
          show Go p.tables e below P (s₁.setTop (mkF m 104 #[.val (.int p0), .val (.int p1), .val (.int p2), .val (.int p3), .val (.long tt), .second, .val (.int (3 : Int32)), .val (.int s0), .val (.int s1), .val (.int c2), t3, .unset, .unset, .unset, .unset, .unset, .unset, .unset, .unset, .unset, .unset] [(.int s1), (.int s0)]))
          by_cases hc104 : s0 = s1
          · skip
            refine Go.s (fun kz => XS.icmpNo X0.here hx rfl (hb hby at_104) rfl (XT.ii_ne_f hc104) kz) ?_
            show Go p.tables e below P (s₁.setTop (mkF m 107 #[.val (.int p0), .val (.int p1), .val (.int p2), .val (.int p3), .val (.long tt), .second, .val (.int (3 : Int32)), .val (.int s0), .val (.int s1), .val (.int c2), t3, .unset, .unset, .unset, .unset, .unset, .unset, .unset, .unset, .unset, .unset] []))
            refine Go.s (fun kz => XS.iconst X0.here hx rfl (hb hby at_107) kz) ?_
            show Go p.tables e below P (s₁.setTop (mkF m 108 #[.val (.int p0), .val (.int p1), .val (.int p2), .val (.int p3), .val (.long tt), .second, .val (.int (3 : Int32)), .val (.int s0), .val (.int s1), .val (.int c2), t3, .unset, .unset, .unset, .unset, .unset, .unset, .unset, .unset, .unset, .unset] [(.int (1 : Int32))]))
            exact Go.retZ X0 hx hlk hret (by decide) (hb hby at_108) (fun U hU hF => hP U _ _ ⟨rfl, N0⟩ ⟨hF.1, hF.2.1, hF.2.2.mono (by decide) (by decide)⟩)
          · skip
            refine Go.s (fun kz => XS.icmpYes X0.here hx rfl (pc0 := 104) (pc' := 109) rfl (hb hby at_104) rfl (XT.ii_ne_t hc104) (by decide) (by decide) kz) ?_
            show Go p.tables e below P (s₁.setTop (mkF m 109 #[.val (.int p0), .val (.int p1), .val (.int p2), .val (.int p3), .val (.long tt), .second, .val (.int (3 : Int32)), .val (.int s0), .val (.int s1), .val (.int c2), t3, .unset, .unset, .unset, .unset, .unset, .unset, .unset, .unset, .unset, .unset] []))
            refine Go.s (fun kz => XS.iload X0.here hx rfl (hb hby at_109) rfl kz) ?_
            refine Go.s (fun kz => XS.iconst X0.here hx rfl (hb hby at_111) kz) ?_
            show Go p.tables e below P (s₁.setTop (mkF m 112 #[.val (.int p0), .val (.int p1), .val (.int p2), .val (.int p3), .val (.long tt), .second, .val (.int (3 : Int32)), .val (.int s0), .val (.int s1), .val (.int c2), t3, .unset, .unset, .unset, .unset, .unset, .unset, .unset, .unset, .unset, .unset] [(.int (3 : Int32)), (.int (3 : Int32))]))
            refine Go.s (fun kz => XS.icmpNo X0.here hx rfl (hb hby at_112) rfl (XT.ii_lt_f (by decide)) kz) ?_
            show Go p.tables e below P (s₁.setTop (mkF m 115 #[.val (.int p0), .val (.int p1), .val (.int p2), .val (.int p3), .val (.long tt), .second, .val (.int (3 : Int32)), .val (.int s0), .val (.int s1), .val (.int c2), t3, .unset, .unset, .unset, .unset, .unset, .unset, .unset, .unset, .unset, .unset] []))
            refine Go.s (fun kz => XS.iload X0.here hx rfl (hb hby at_115) rfl kz) ?_
            refine Go.s (fun kz => XS.iload X0.here hx rfl (hb hby at_117) rfl kz) ?_
            show Go p.tables e below P (s₁.setTop (mkF m 119 #[.val (.int p0), .val (.int p1), .val (.int p2), .val (.int p3), .val (.long tt), .second, .val (.int (3 : Int32)), .val (.int s0), .val (.int s1), .val (.int c2), t3, .unset, .unset, .unset, .unset, .unset, .unset, .unset, .unset, .unset, .unset] [(.int c2), (.int s1)]))
            by_cases hc119 : s1 = c2
            · skip
              refine Go.s (fun kz => XS.icmpNo X0.here hx rfl (hb hby at_119) rfl (XT.ii_ne_f hc119) kz) ?_
              show Go p.tables e below P (s₁.setTop (mkF m 122 #[.val (.int p0), .val (.int p1), .val (.int p2), .val (.int p3), .val (.long tt), .second, .val (.int (3 : Int32)), .val (.int s0), .val (.int s1), .val (.int c2), t3, .unset, .unset, .unset, .unset, .unset, .unset, .unset, .unset, .unset, .unset] []))
              refine Go.s (fun kz => XS.iconst X0.here hx rfl (hb hby at_122) kz) ?_
              show Go p.tables e below P (s₁.setTop (mkF m 123 #[.val (.int p0), .val (.int p1), .val (.int p2), .val (.int p3), .val (.long tt), .second, .val (.int (3 : Int32)), .val (.int s0), .val (.int s1), .val (.int c2), t3, .unset, .unset, .unset, .unset, .unset, .unset, .unset, .unset, .unset, .unset] [(.int (1 : Int32))]))
              exact Go.retZ X0 hx hlk hret (by decide) (hb hby at_123) (fun U hU hF => hP U _ _ ⟨rfl, N0⟩ ⟨hF.1, hF.2.1, hF.2.2.mono (by decide) (by decide)⟩)
            · skip
              refine Go.s (fun kz => XS.icmpYes X0.here hx rfl (pc0 := 119) (pc' := 124) rfl (hb hby at_119) rfl (XT.ii_ne_t hc119) (by decide) (by decide) kz) ?_
              show Go p.tables e below P (s₁.setTop (mkF m 124 #[.val (.int p0), .val (.int p1), .val (.int p2), .val (.int p3), .val (.long tt), .second, .val (.int (3 : Int32)), .val (.int s0), .val (.int s1), .val (.int c2), t3, .unset, .unset, .unset, .unset, .unset, .unset, .unset, .unset, .unset, .unset] []))
              refine Go.s (fun kz => XS.iload X0.here hx rfl (hb hby at_124) rfl kz) ?_
              refine Go.s (fun kz => XS.iconst X0.here hx rfl (hb hby at_126) kz) ?_
              show Go p.tables e below P (s₁.setTop (mkF m 127 #[.val (.int p0), .val (.int p1), .val (.int p2), .val (.int p3), .val (.long tt), .second, .val (.int (3 : Int32)), .val (.int s0), .val (.int s1), .val (.int c2), t3, .unset, .unset, .unset, .unset, .unset, .unset, .unset, .unset, .unset, .unset] [(.int (1 : Int32)), (.int (3 : Int32))]))
              refine Go.s (fun kz => XS.icmpYes X0.here hx rfl (pc0 := 127) (pc' := 143) rfl (hb hby at_127) rfl (XT.ii_ne_t (by decide)) (by decide) (by decide) kz) ?_
              show Go p.tables e below P (s₁.setTop (mkF m 143 #[.val (.int p0), .val (.int p1), .val (.int p2), .val (.int p3), .val (.long tt), .second, .val (.int (3 : Int32)), .val (.int s0), .val (.int s1), .val (.int c2), t3, .unset, .unset, .unset, .unset, .unset, .unset, .unset, .unset, .unset, .unset] []))
              refine Go.s (fun kz => XS.iload X0.here hx rfl (hb hby at_143) rfl kz) ?_
              refine Go.s (fun kz => XS.iconst X0.here hx rfl (hb hby at_145) kz) ?_
              show Go p.tables e below P (s₁.setTop (mkF m 146 #[.val (.int p0), .val (.int p1), .val (.int p2), .val (.int p3), .val (.long tt), .second, .val (.int (3 : Int32)), .val (.int s0), .val (.int s1), .val (.int c2), t3, .unset, .unset, .unset, .unset, .unset, .unset, .unset, .unset, .unset, .unset] [(.int (2 : Int32)), (.int (3 : Int32))]))
              refine Go.s (fun kz => XS.icmpYes X0.here hx rfl (pc0 := 146) (pc' := 167) rfl (hb hby at_146) rfl (XT.ii_ne_t (by decide)) (by decide) (by decide) kz) ?_
              show Go p.tables e below P (s₁.setTop (mkF m 167 #[.val (.int p0), .val (.int p1), .val (.int p2), .val (.int p3), .val (.long tt), .second, .val (.int (3 : Int32)), .val (.int s0), .val (.int s1), .val (.int c2), t3, .unset, .unset, .unset, .unset, .unset, .unset, .unset, .unset, .unset, .unset] []))
              refine Go.s (fun kz => XS.iconst X0.here hx rfl (hb hby at_167) kz) ?_
              show Go p.tables e below P (s₁.setTop (mkF m 168 #[.val (.int p0), .val (.int p1), .val (.int p2), .val (.int p3), .val (.long tt), .second, .val (.int (3 : Int32)), .val (.int s0), .val (.int s1), .val (.int c2), t3, .unset, .unset, .unset, .unset, .unset, .unset, .unset, .unset, .unset, .unset] [(.int (3 : Int32))]))
              obtain ⟨T23, H23, k23, X23, e23, E23, A23, st23⟩ := newP X0 hx hZ (hw _ (List.mem_of_getElem? (i := 2) rfl)) e0 (g := (mkF m 168 #[.val (.int p0), .val (.int p1), .val (.int p2), .val (.int p3), .val (.long tt), .second, .val (.int (3 : Int32)), .val (.int s0), .val (.int s1), .val (.int c2), t3, .unset, .unset, .unset, .unset, .unset, .unset, .unset, .unset, .unset, .unset] [(.int (3 : Int32))])) rfl (hb hby at_168) rfl (by decide) (cap := 3) (by decide) (by decide) (by decide) (by decide)
              refine Go.s (fun {t} => st23 t) ?_
              obtain ⟨b23, g23⟩ : ∃ z, z = h0.size := ⟨_, rfl⟩
              rw [← g23] at A23
              rw [← g23]
              have G_b23 : n0 ≤ b23 := Nat.le_trans Z0 (Nat.le_of_eq g23.symm)
              have Zs23 := Nat.le_trans Z0 E23.1
              have V23 : Arv Z H23 b23 k23 .int (3 : Int32) [(.int (0 : Int32)), (.int (0 : Int32)), (.int (0 : Int32))] (.int (0 : Int32)) := (Arv.new A23 (by decide)).pad (pad_rep [] (.int (0 : Int32)) 3)
              refine Go.s (fun kz => XS.dup X23.here hx rfl (hb hby at_170) rfl rfl kz) ?_
              refine Go.s (fun kz => XS.iconst X23.here hx rfl (hb hby at_171) kz) ?_
              refine Go.s (fun kz => XS.iload X23.here hx rfl (hb hby at_172) rfl kz) ?_
              show Go p.tables e below P (T23.setTop (mkF m 174 #[.val (.int p0), .val (.int p1), .val (.int p2), .val (.int p3), .val (.long tt), .second, .val (.int (3 : Int32)), .val (.int s0), .val (.int s1), .val (.int c2), t3, .unset, .unset, .unset, .unset, .unset, .unset, .unset, .unset, .unset, .unset] [(.int s0), (.int (0 : Int32)), (.ref b23), (.ref b23)]))
              obtain ⟨cl24, Ar24, q24, Sz24, Ng24, Ha24, Ft24⟩ := id V23
              have hin24 := inb_of (j := (0 : Int32)) Sz24 ⟨by decide, by decide⟩
              obtain ⟨T24, H24, X24, e24, W24, st24⟩ := stI X23 hx hZ e23 Ar24 (j := (0 : Int32)) hin24 (g := (mkF m 174 #[.val (.int p0), .val (.int p1), .val (.int p2), .val (.int p3), .val (.long tt), .second, .val (.int (3 : Int32)), .val (.int s0), .val (.int s1), .val (.int c2), t3, .unset, .unset, .unset, .unset, .unset, .unset, .unset, .unset, .unset, .unset] [(.int s0), (.int (0 : Int32)), (.ref b23), (.ref b23)])) rfl rfl (hb hby at_174)
              refine Go.s (fun {t} => st24 t) ?_
              have V24 : Arv Z H24 b23 k23 .int (3 : Int32) [(.int s0), (.int (0 : Int32)), (.int (0 : Int32))] (.int (0 : Int32)) := Arv.set Ar24 q24 Sz24 Ng24 Ha24 Ft24 rfl W24 0 rfl (Nat.le_of_ble_eq_true rfl)
              have N24 := Fr.snoc X24 N0 G_b23
              have Zs24 := Nat.le_trans Zs23 (Keep.of_wr W24).1
              refine Go.s (fun kz => XS.dup X24.here hx rfl (hb hby at_175) rfl rfl kz) ?_
              refine Go.s (fun kz => XS.iconst X24.here hx rfl (hb hby at_176) kz) ?_
              refine Go.s (fun kz => XS.iload X24.here hx rfl (hb hby at_177) rfl kz) ?_
              show Go p.tables e below P (T24.setTop (mkF m 179 #[.val (.int p0), .val (.int p1), .val (.int p2), .val (.int p3), .val (.long tt), .second, .val (.int (3 : Int32)), .val (.int s0), .val (.int s1), .val (.int c2), t3, .unset, .unset, .unset, .unset, .unset, .unset, .unset, .unset, .unset, .unset] [(.int s1), (.int (1 : Int32)), (.ref b23), (.ref b23)]))
              obtain ⟨cl26, Ar26, q26, Sz26, Ng26, Ha26, Ft26⟩ := id V24
              have hin26 := inb_of (j := (1 : Int32)) Sz26 ⟨by decide, by decide⟩
              obtain ⟨T26, H26, X26, e26, W26, st26⟩ := stI X24 hx hZ e24 Ar26 (j := (1 : Int32)) hin26 (g := (mkF m 179 #[.val (.int p0), .val (.int p1), .val (.int p2), .val (.int p3), .val (.long tt), .second, .val (.int (3 : Int32)), .val (.int s0), .val (.int s1), .val (.int c2), t3, .unset, .unset, .unset, .unset, .unset, .unset, .unset, .unset, .unset, .unset] [(.int s1), (.int (1 : Int32)), (.ref b23), (.ref b23)])) rfl rfl (hb hby at_179)
              refine Go.s (fun {t} => st26 t) ?_
              have V26 : Arv Z H26 b23 k23 .int (3 : Int32) [(.int s0), (.int s1), (.int (0 : Int32))] (.int (0 : Int32)) := Arv.set Ar26 q26 Sz26 Ng26 Ha26 Ft26 rfl W26 1 rfl (Nat.le_of_ble_eq_true rfl)
              have N26 := Fr.snoc X26 N24 G_b23
              have Zs26 := Nat.le_trans Zs24 (Keep.of_wr W26).1
              refine Go.s (fun kz => XS.dup X26.here hx rfl (hb hby at_180) rfl rfl kz) ?_
              refine Go.s (fun kz => XS.iconst X26.here hx rfl (hb hby at_181) kz) ?_
              refine Go.s (fun kz => XS.iload X26.here hx rfl (hb hby at_182) rfl kz) ?_
              show Go p.tables e below P (T26.setTop (mkF m 184 #[.val (.int p0), .val (.int p1), .val (.int p2), .val (.int p3), .val (.long tt), .second, .val (.int (3 : Int32)), .val (.int s0), .val (.int s1), .val (.int c2), t3, .unset, .unset, .unset, .unset, .unset, .unset, .unset, .unset, .unset, .unset] [(.int c2), (.int (2 : Int32)), (.ref b23), (.ref b23)]))
              obtain ⟨cl28, Ar28, q28, Sz28, Ng28, Ha28, Ft28⟩ := id V26
              have hin28 := inb_of (j := (2 : Int32)) Sz28 ⟨by decide, by decide⟩
              obtain ⟨T28, H28, X28, e28, W28, st28⟩ := stI X26 hx hZ e26 Ar28 (j := (2 : Int32)) hin28 (g := (mkF m 184 #[.val (.int p0), .val (.int p1), .val (.int p2), .val (.int p3), .val (.long tt), .second, .val (.int (3 : Int32)), .val (.int s0), .val (.int s1), .val (.int c2), t3, .unset, .unset, .unset, .unset, .unset, .unset, .unset, .unset, .unset, .unset] [(.int c2), (.int (2 : Int32)), (.ref b23), (.ref b23)])) rfl rfl (hb hby at_184)
              refine Go.s (fun {t} => st28 t) ?_
              have V28 : Arv Z H28 b23 k23 .int (3 : Int32) [(.int s0), (.int s1), (.int c2)] (.int (0 : Int32)) := Arv.set Ar28 q28 Sz28 Ng28 Ha28 Ft28 rfl W28 2 rfl (Nat.le_of_ble_eq_true rfl)
              have N28 := Fr.snoc X28 N26 G_b23
              have Zs28 := Nat.le_trans Zs26 (Keep.of_wr W28).1
              refine Go.s (fun kz => XS.astore X28.here hx rfl (hb hby at_185) rfl rfl (l' := #[.val (.int p0), .val (.int p1), .val (.int p2), .val (.int p3), .val (.long tt), .second, .val (.int (3 : Int32)), .val (.int s0), .val (.int s1), .val (.int c2), t3, .val (.ref b23), .unset, .unset, .unset, .unset, .unset, .unset, .unset, .unset, .unset]) rfl kz) ?_
              show Go p.tables e below P (T28.setTop (mkF m 187 #[.val (.int p0), .val (.int p1), .val (.int p2), .val (.int p3), .val (.long tt), .second, .val (.int (3 : Int32)), .val (.int s0), .val (.int s1), .val (.int c2), t3, .val (.ref b23), .unset, .unset, .unset, .unset, .unset, .unset, .unset, .unset, .unset] []))
              obtain ⟨T30, H30, X30, e30, E30, A30, D30, U30, st30⟩ := newO X28 hx hZ hown (hw _ (List.mem_of_getElem? (i := 3) rfl)) (hw _ (List.mem_of_getElem? (i := 4) rfl)) (hw _ (List.mem_of_getElem? (i := 5) rfl)) e28 (g := (mkF m 187 #[.val (.int p0), .val (.int p1), .val (.int p2), .val (.int p3), .val (.long tt), .second, .val (.int (3 : Int32)), .val (.int s0), .val (.int s1), .val (.int c2), t3, .val (.ref b23), .unset, .unset, .unset, .unset, .unset, .unset, .unset, .unset, .unset] [])) rfl (hb hby at_187) (by decide) (by decide)
              refine Go.s (fun {t} => st30 t) ?_
              obtain ⟨b30, g30⟩ : ∃ z, z = H28.size := ⟨_, rfl⟩
              rw [← g30] at A30 D30 U30
              rw [← g30]
              have ne_b23_b30 : b23 ≠ b30 := Nat.ne_of_lt (Nat.lt_of_lt_of_le V28.lt (Nat.le_of_eq g30.symm))
              have V28_31 := Arv.ext V28 E30
              have G_b30 : n0 ≤ b30 := Nat.le_trans Zs28 (Nat.le_of_eq g30.symm)
              have Zs30 := Nat.le_trans Zs28 E30.1
              have Kn30 := Kn.of_new U30
              refine Go.s (fun kz => XS.dup X30.here hx rfl (hb hby at_190) rfl rfl kz) ?_
              refine Go.s (fun kz => XS.aload X30.here hx rfl (hb hby at_191) rfl rfl kz) ?_
              show Go p.tables e below P (T30.setTop (mkF m 193 #[.val (.int p0), .val (.int p1), .val (.int p2), .val (.int p3), .val (.long tt), .second, .val (.int (3 : Int32)), .val (.int s0), .val (.int s1), .val (.int c2), t3, .val (.ref b23), .unset, .unset, .unset, .unset, .unset, .unset, .unset, .unset, .unset] [(.ref b23), (.ref b30), (.ref b30)]))
              obtain ⟨v32, T32, L32, X32, Q32, st32⟩ := Con.special (own_rm1 l Z a0 hw [] b30 (.ref b23) H30 n0 Zs30 A30 Kn30 G_b30 rfl ) rfl X30 hx hZ (W := 1) hown (hw _ (List.mem_of_getElem? (i := 6) rfl)) (hw _ (List.mem_of_getElem? (i := 7) rfl)) (hw _ (List.mem_of_getElem? (i := 5) rfl)) (hw _ (List.mem_of_getElem? (i := 8) rfl)) (by decide) (by decide) (by decide) (by decide) (by decide) e30 (g := (mkF m 193 #[.val (.int p0), .val (.int p1), .val (.int p2), .val (.int p3), .val (.long tt), .second, .val (.int (3 : Int32)), .val (.int s0), .val (.int s1), .val (.int c2), t3, .val (.ref b23), .unset, .unset, .unset, .unset, .unset, .unset, .unset, .unset, .unset] [(.ref b23), (.ref b30), (.ref b30)])) rfl (by rw [hml]; rfl) (argsL := [(.ref b23)]) (rest := [(.ref b30)]) rfl (lenOf own_pd_4 rfl) rfl (by show 2 * 0 + _ ≤ _; exact Nat.le_of_eq rfl) (hb hby at_193)
              obtain ⟨H32, e32⟩ : ∃ z, T32.heap = z := ⟨_, rfl⟩
              rw [e32] at Q32
              obtain ⟨rfl, Nq32, Kq32, Fq32_secondsOfDay⟩ := Q32
              have N32 := Fr.app N28 Nq32
              have Zs32 := Nat.le_trans Zs30 Kq32.1
              have V28_33 := Arv.keep V28_31 Kq32 (ninS ne_b23_b30 nin0)
              have A30_34 := Exa.keep A30 Kq32
              have Kn30_35 := Kn.keep Kn30 Kq32
              refine Go.s (fun {t} => st32) ?_
              refine Go.s (fun kz => XS.astore X32.here hx rfl (hb hby at_196) rfl rfl (l' := #[.val (.int p0), .val (.int p1), .val (.int p2), .val (.int p3), .val (.long tt), .second, .val (.int (3 : Int32)), .val (.int s0), .val (.int s1), .val (.int c2), t3, .val (.ref b23), .val (.ref b30), .unset, .unset, .unset, .unset, .unset, .unset, .unset, .unset]) rfl kz) ?_
              refine Go.s (fun kz => XS.aload X32.here hx rfl (hb hby at_198) rfl rfl kz) ?_
              refine Go.s (fun kz => XT.lload X32.here hx rfl (hb hby at_200) rfl kz) ?_
              show Go p.tables e below P (T32.setTop (mkF m 202 #[.val (.int p0), .val (.int p1), .val (.int p2), .val (.int p3), .val (.long tt), .second, .val (.int (3 : Int32)), .val (.int s0), .val (.int s1), .val (.int c2), t3, .val (.ref b23), .val (.ref b30), .unset, .unset, .unset, .unset, .unset, .unset, .unset, .unset] [(.long tt), (.ref b30)]))
              obtain ⟨v36, T36, L36, X36, Q36, st36⟩ := Con.virtual (own_rm3_3 l Z a0 hw [] b30 b23 k23 tt s0 s1 c2 H32 n0 Zs32 V28_33 Fq32_secondsOfDay A30_34) X32 hx hZ (W := 0) hown (hw _ (List.mem_of_getElem? (i := 14) rfl)) (hw _ (List.mem_of_getElem? (i := 15) rfl)) (hw _ (List.mem_of_getElem? (i := 17) rfl)) (hw _ (List.mem_of_getElem? (i := 16) rfl)) (hw _ (List.mem_of_getElem? (i := 5) rfl)) (hw _ (List.mem_of_getElem? (i := 18) rfl)) (by decide) (by decide) (by decide) (by decide) (by decide) e32 (g := (mkF m 202 #[.val (.int p0), .val (.int p1), .val (.int p2), .val (.int p3), .val (.long tt), .second, .val (.int (3 : Int32)), .val (.int s0), .val (.int s1), .val (.int c2), t3, .val (.ref b23), .val (.ref b30), .unset, .unset, .unset, .unset, .unset, .unset, .unset, .unset] [(.long tt), (.ref b30)])) rfl (by rw [hml]; rfl) A30_34 (argsL := [(.long tt)]) (rest := []) rfl (lenOf own_pd_5 rfl) rfl (by show 2 * 0 + _ ≤ _; exact Nat.le_of_eq rfl) (hb hby at_202)
              obtain ⟨hd36, Nq36, e36⟩ := Q36
              have N36 := Fr.app N32 Nq36
              rcases hd36 with ⟨rfl, k0, k1⟩ | ⟨rfl, k0, k1, k2⟩ | ⟨rfl, k0, k1, k2⟩ | ⟨rfl, k0, k1, k2⟩ | ⟨rfl, k0, k1, k2, k3⟩ | ⟨rfl, k0, k1, k2, k3⟩ | ⟨rfl, k0, k1⟩
              · skip
                refine Go.s (fun {t} => st36) ?_
                show Go p.tables e below P (T36.setTop (mkF m 205 #[.val (.int p0), .val (.int p1), .val (.int p2), .val (.int p3), .val (.long tt), .second, .val (.int (3 : Int32)), .val (.int s0), .val (.int s1), .val (.int c2), t3, .val (.ref b23), .val (.ref b30), .unset, .unset, .unset, .unset, .unset, .unset, .unset, .unset] [(.long (((own_f4 tt (86400 : Int64)) + (1 : Int64)) * (86400 : Int64) + s0.toInt64))]))
                have hk := own_key tt
                have c2' : (2 : Int32).toInt = 2 := rfl
                have m0 := k0
                rw [Int32.lt_iff_toInt_lt, hk] at m0
                have m1 := k1
                rw [Int32.lt_iff_toInt_lt, hk] at m1
                refine Go.s (fun kz => XT.lstore X36.here hx rfl (hb hby at_205) rfl (l' := #[.val (.int p0), .val (.int p1), .val (.int p2), .val (.int p3), .val (.long tt), .second, .val (.int (3 : Int32)), .val (.int s0), .val (.int s1), .val (.int c2), t3, .val (.ref b23), .val (.ref b30), .val (.long (((own_f4 tt (86400 : Int64)) + (1 : Int64)) * (86400 : Int64) + s0.toInt64)), .second, .unset, .unset, .unset, .unset, .unset, .unset]) rfl kz) ?_
                refine Go.s (fun kz => XT.lload X36.here hx rfl (hb hby at_207) rfl kz) ?_
                refine Go.s (fun kz => X36.ldc2J hx hown (mvT hZ (hw _ (List.mem_of_getElem? (i := 38) rfl))) rfl (hb hby at_209) kz) ?_
                show Go p.tables e below P (T36.setTop (mkF m 212 #[.val (.int p0), .val (.int p1), .val (.int p2), .val (.int p3), .val (.long tt), .second, .val (.int (3 : Int32)), .val (.int s0), .val (.int s1), .val (.int c2), t3, .val (.ref b23), .val (.ref b30), .val (.long (((own_f4 tt (86400 : Int64)) + (1 : Int64)) * (86400 : Int64) + s0.toInt64)), .second, .unset, .unset, .unset, .unset, .unset, .unset] [(.long (86400 : Int64)), (.long tt)]))
                refine Go.s (fun kz => lremM X36 hx rfl (hb hby at_212) rfl (by decide) kz) ?_
                refine Go.s (fun kz => XT.lstore X36.here hx rfl (hb hby at_213) rfl (l' := #[.val (.int p0), .val (.int p1), .val (.int p2), .val (.int p3), .val (.long tt), .second, .val (.int (3 : Int32)), .val (.int s0), .val (.int s1), .val (.int c2), t3, .val (.ref b23), .val (.ref b30), .val (.long (((own_f4 tt (86400 : Int64)) + (1 : Int64)) * (86400 : Int64) + s0.toInt64)), .second, .val (.long (tt % (86400 : Int64))), .second, .unset, .unset, .unset, .unset]) rfl kz) ?_
                show Go p.tables e below P (T36.setTop (mkF m 215 #[.val (.int p0), .val (.int p1), .val (.int p2), .val (.int p3), .val (.long tt), .second, .val (.int (3 : Int32)), .val (.int s0), .val (.int s1), .val (.int c2), t3, .val (.ref b23), .val (.ref b30), .val (.long (((own_f4 tt (86400 : Int64)) + (1 : Int64)) * (86400 : Int64) + s0.toInt64)), .second, .val (.long (tt % (86400 : Int64))), .second, .unset, .unset, .unset, .unset] []))
                have J230 : ∀ (rr : Int64) (hrr : rr.toInt = tt.toInt % 86400), Go p.tables e below P (T36.setTop (mkF m 230 #[.val (.int p0), .val (.int p1), .val (.int p2), .val (.int p3), .val (.long tt), .second, .val (.int (3 : Int32)), .val (.int s0), .val (.int s1), .val (.int c2), t3, .val (.ref b23), .val (.ref b30), .val (.long (((own_f4 tt (86400 : Int64)) + (1 : Int64)) * (86400 : Int64) + s0.toInt64)), .second, .val (.long rr), .second, .unset, .unset, .unset, .unset] [])) := by
                  intro rr hrr
                  refine Go.s (fun kz => XT.lload X36.here hx rfl (hb hby at_230) rfl kz) ?_
                  refine Go.s (fun kz => XT.lload X36.here hx rfl (hb hby at_232) rfl kz) ?_
                  refine Go.s (fun kz => XT.lsub X36.here hx rfl (hb hby at_234) rfl kz) ?_
                  refine Go.s (fun kz => XT.lstore X36.here hx rfl (hb hby at_235) rfl (l' := #[.val (.int p0), .val (.int p1), .val (.int p2), .val (.int p3), .val (.long tt), .second, .val (.int (3 : Int32)), .val (.int s0), .val (.int s1), .val (.int c2), t3, .val (.ref b23), .val (.ref b30), .val (.long (((own_f4 tt (86400 : Int64)) + (1 : Int64)) * (86400 : Int64) + s0.toInt64)), .second, .val (.long rr), .second, .val (.long (tt - rr)), .second, .unset, .unset]) rfl kz) ?_
                  refine Go.s (fun kz => XT.lload X36.here hx rfl (hb hby at_237) rfl kz) ?_
                  refine Go.s (fun kz => XS.iload X36.here hx rfl (hb hby at_239) rfl kz) ?_
                  show Go p.tables e below P (T36.setTop (mkF m 241 #[.val (.int p0), .val (.int p1), .val (.int p2), .val (.int p3), .val (.long tt), .second, .val (.int (3 : Int32)), .val (.int s0), .val (.int s1), .val (.int c2), t3, .val (.ref b23), .val (.ref b30), .val (.long (((own_f4 tt (86400 : Int64)) + (1 : Int64)) * (86400 : Int64) + s0.toInt64)), .second, .val (.long rr), .second, .val (.long (tt - rr)), .second, .unset, .unset] [(.int s0), (.long rr)]))
                  refine Go.s (fun kz => XT.i2l X36.here hx rfl (hb hby at_241) rfl kz) ?_
                  refine Go.s (fun kz => XT.lcmp X36.here hx rfl (hb hby at_242) rfl kz) ?_
                  show Go p.tables e below P (T36.setTop (mkF m 243 #[.val (.int p0), .val (.int p1), .val (.int p2), .val (.int p3), .val (.long tt), .second, .val (.int (3 : Int32)), .val (.int s0), .val (.int s1), .val (.int c2), t3, .val (.ref b23), .val (.ref b30), .val (.long (((own_f4 tt (86400 : Int64)) + (1 : Int64)) * (86400 : Int64) + s0.toInt64)), .second, .val (.long rr), .second, .val (.long (tt - rr)), .second, .unset, .unset] [(.int (XT.cmpL rr s0.toInt64))]))
                  refine Go.s (fun kz => XS.ifYes X36.here hx rfl (pc0 := 243) (pc' := 257) rfl (hb hby at_243) rfl (XT.ll_gt_t (by have z104 := hc104; rw [← Int32.toInt_inj] at z104; have z119 := hc119; rw [← Int32.toInt_inj] at z119; rw [Int64.lt_iff_toInt_lt, Jvm.Kit.i64_of_i32]; omega)) (by decide) (by decide) kz) ?_
                  show Go p.tables e below P (T36.setTop (mkF m 257 #[.val (.int p0), .val (.int p1), .val (.int p2), .val (.int p3), .val (.long tt), .second, .val (.int (3 : Int32)), .val (.int s0), .val (.int s1), .val (.int c2), t3, .val (.ref b23), .val (.ref b30), .val (.long (((own_f4 tt (86400 : Int64)) + (1 : Int64)) * (86400 : Int64) + s0.toInt64)), .second, .val (.long rr), .second, .val (.long (tt - rr)), .second, .unset, .unset] []))
                  refine Go.s (fun kz => XS.iload X36.here hx rfl (hb hby at_257) rfl kz) ?_
                  refine Go.s (fun kz => XS.iconst X36.here hx rfl (hb hby at_259) kz) ?_
                  show Go p.tables e below P (T36.setTop (mkF m 260 #[.val (.int p0), .val (.int p1), .val (.int p2), .val (.int p3), .val (.long tt), .second, .val (.int (3 : Int32)), .val (.int s0), .val (.int s1), .val (.int c2), t3, .val (.ref b23), .val (.ref b30), .val (.long (((own_f4 tt (86400 : Int64)) + (1 : Int64)) * (86400 : Int64) + s0.toInt64)), .second, .val (.long rr), .second, .val (.long (tt - rr)), .second, .unset, .unset] [(.int (2 : Int32)), (.int (3 : Int32))]))
                  refine Go.s (fun kz => XS.icmpNo X36.here hx rfl (hb hby at_260) rfl (XT.ii_lt_f (by decide)) kz) ?_
                  show Go p.tables e below P (T36.setTop (mkF m 263 #[.val (.int p0), .val (.int p1), .val (.int p2), .val (.int p3), .val (.long tt), .second, .val (.int (3 : Int32)), .val (.int s0), .val (.int s1), .val (.int c2), t3, .val (.ref b23), .val (.ref b30), .val (.long (((own_f4 tt (86400 : Int64)) + (1 : Int64)) * (86400 : Int64) + s0.toInt64)), .second, .val (.long rr), .second, .val (.long (tt - rr)), .second, .unset, .unset] []))
                  refine Go.s (fun kz => XT.lload X36.here hx rfl (hb hby at_263) rfl kz) ?_
                  refine Go.s (fun kz => XS.iload X36.here hx rfl (hb hby at_265) rfl kz) ?_
                  refine Go.s (fun kz => XT.i2l X36.here hx rfl (hb hby at_267) rfl kz) ?_
                  refine Go.s (fun kz => XT.lcmp X36.here hx rfl (hb hby at_268) rfl kz) ?_
                  show Go p.tables e below P (T36.setTop (mkF m 269 #[.val (.int p0), .val (.int p1), .val (.int p2), .val (.int p3), .val (.long tt), .second, .val (.int (3 : Int32)), .val (.int s0), .val (.int s1), .val (.int c2), t3, .val (.ref b23), .val (.ref b30), .val (.long (((own_f4 tt (86400 : Int64)) + (1 : Int64)) * (86400 : Int64) + s0.toInt64)), .second, .val (.long rr), .second, .val (.long (tt - rr)), .second, .unset, .unset] [(.int (XT.cmpL rr s1.toInt64))]))
                  refine Go.s (fun kz => XS.ifYes X36.here hx rfl (pc0 := 269) (pc' := 283) rfl (hb hby at_269) rfl (XT.ll_gt_t (by have z104 := hc104; rw [← Int32.toInt_inj] at z104; have z119 := hc119; rw [← Int32.toInt_inj] at z119; rw [Int64.lt_iff_toInt_lt, Jvm.Kit.i64_of_i32]; omega)) (by decide) (by decide) kz) ?_
                  show Go p.tables e below P (T36.setTop (mkF m 283 #[.val (.int p0), .val (.int p1), .val (.int p2), .val (.int p3), .val (.long tt), .second, .val (.int (3 : Int32)), .val (.int s0), .val (.int s1), .val (.int c2), t3, .val (.ref b23), .val (.ref b30), .val (.long (((own_f4 tt (86400 : Int64)) + (1 : Int64)) * (86400 : Int64) + s0.toInt64)), .second, .val (.long rr), .second, .val (.long (tt - rr)), .second, .unset, .unset] []))
                  refine Go.s (fun kz => XS.iload X36.here hx rfl (hb hby at_283) rfl kz) ?_
                  refine Go.s (fun kz => XS.iconst X36.here hx rfl (hb hby at_285) kz) ?_
                  show Go p.tables e below P (T36.setTop (mkF m 286 #[.val (.int p0), .val (.int p1), .val (.int p2), .val (.int p3), .val (.long tt), .second, .val (.int (3 : Int32)), .val (.int s0), .val (.int s1), .val (.int c2), t3, .val (.ref b23), .val (.ref b30), .val (.long (((own_f4 tt (86400 : Int64)) + (1 : Int64)) * (86400 : Int64) + s0.toInt64)), .second, .val (.long rr), .second, .val (.long (tt - rr)), .second, .unset, .unset] [(.int (3 : Int32)), (.int (3 : Int32))]))
                  refine Go.s (fun kz => XS.icmpNo X36.here hx rfl (hb hby at_286) rfl (XT.ii_lt_f (by decide)) kz) ?_
                  show Go p.tables e below P (T36.setTop (mkF m 289 #[.val (.int p0), .val (.int p1), .val (.int p2), .val (.int p3), .val (.long tt), .second, .val (.int (3 : Int32)), .val (.int s0), .val (.int s1), .val (.int c2), t3, .val (.ref b23), .val (.ref b30), .val (.long (((own_f4 tt (86400 : Int64)) + (1 : Int64)) * (86400 : Int64) + s0.toInt64)), .second, .val (.long rr), .second, .val (.long (tt - rr)), .second, .unset, .unset] []))
                  refine Go.s (fun kz => XT.lload X36.here hx rfl (hb hby at_289) rfl kz) ?_
                  refine Go.s (fun kz => XS.iload X36.here hx rfl (hb hby at_291) rfl kz) ?_
                  refine Go.s (fun kz => XT.i2l X36.here hx rfl (hb hby at_293) rfl kz) ?_
                  refine Go.s (fun kz => XT.lcmp X36.here hx rfl (hb hby at_294) rfl kz) ?_
                  show Go p.tables e below P (T36.setTop (mkF m 295 #[.val (.int p0), .val (.int p1), .val (.int p2), .val (.int p3), .val (.long tt), .second, .val (.int (3 : Int32)), .val (.int s0), .val (.int s1), .val (.int c2), t3, .val (.ref b23), .val (.ref b30), .val (.long (((own_f4 tt (86400 : Int64)) + (1 : Int64)) * (86400 : Int64) + s0.toInt64)), .second, .val (.long rr), .second, .val (.long (tt - rr)), .second, .unset, .unset] [(.int (XT.cmpL rr c2.toInt64))]))
                  refine Go.s (fun kz => XS.ifYes X36.here hx rfl (pc0 := 295) (pc' := 309) rfl (hb hby at_295) rfl (XT.ll_gt_t (by have z104 := hc104; rw [← Int32.toInt_inj] at z104; have z119 := hc119; rw [← Int32.toInt_inj] at z119; rw [Int64.lt_iff_toInt_lt, Jvm.Kit.i64_of_i32]; omega)) (by decide) (by decide) kz) ?_
                  show Go p.tables e below P (T36.setTop (mkF m 309 #[.val (.int p0), .val (.int p1), .val (.int p2), .val (.int p3), .val (.long tt), .second, .val (.int (3 : Int32)), .val (.int s0), .val (.int s1), .val (.int c2), t3, .val (.ref b23), .val (.ref b30), .val (.long (((own_f4 tt (86400 : Int64)) + (1 : Int64)) * (86400 : Int64) + s0.toInt64)), .second, .val (.long rr), .second, .val (.long (tt - rr)), .second, .unset, .unset] []))
                  refine Go.s (fun kz => XT.lload X36.here hx rfl (hb hby at_309) rfl kz) ?_
                  refine Go.s (fun kz => X36.ldc2J hx hown (mvT hZ (hw _ (List.mem_of_getElem? (i := 38) rfl))) rfl (hb hby at_311) kz) ?_
                  refine Go.s (fun kz => XT.ladd X36.here hx rfl (hb hby at_314) rfl kz) ?_
                  refine Go.s (fun kz => XS.iload X36.here hx rfl (hb hby at_315) rfl kz) ?_
                  refine Go.s (fun kz => XT.i2l X36.here hx rfl (hb hby at_317) rfl kz) ?_
                  refine Go.s (fun kz => XT.ladd X36.here hx rfl (hb hby at_318) rfl kz) ?_
                  show Go p.tables e below P (T36.setTop (mkF m 319 #[.val (.int p0), .val (.int p1), .val (.int p2), .val (.int p3), .val (.long tt), .second, .val (.int (3 : Int32)), .val (.int s0), .val (.int s1), .val (.int c2), t3, .val (.ref b23), .val (.ref b30), .val (.long (((own_f4 tt (86400 : Int64)) + (1 : Int64)) * (86400 : Int64) + s0.toInt64)), .second, .val (.long rr), .second, .val (.long (tt - rr)), .second, .unset, .unset] [(.long (((tt - rr) + (86400 : Int64)) + s0.toInt64))]))
                  refine Go.s (fun kz => XT.lstore X36.here hx rfl (hb hby at_319) rfl (l' := #[.val (.int p0), .val (.int p1), .val (.int p2), .val (.int p3), .val (.long tt), .second, .val (.int (3 : Int32)), .val (.int s0), .val (.int s1), .val (.int c2), t3, .val (.ref b23), .val (.ref b30), .val (.long (((own_f4 tt (86400 : Int64)) + (1 : Int64)) * (86400 : Int64) + s0.toInt64)), .second, .val (.long rr), .second, .val (.long (tt - rr)), .second, .val (.long (((tt - rr) + (86400 : Int64)) + s0.toInt64)), .second]) rfl kz) ?_
                  refine Go.s (fun kz => XT.lload X36.here hx rfl (hb hby at_321) rfl kz) ?_
                  refine Go.s (fun kz => XT.lload X36.here hx rfl (hb hby at_323) rfl kz) ?_
                  refine Go.s (fun kz => XT.lcmp X36.here hx rfl (hb hby at_325) rfl kz) ?_
                  show Go p.tables e below P (T36.setTop (mkF m 326 #[.val (.int p0), .val (.int p1), .val (.int p2), .val (.int p3), .val (.long tt), .second, .val (.int (3 : Int32)), .val (.int s0), .val (.int s1), .val (.int c2), t3, .val (.ref b23), .val (.ref b30), .val (.long (((own_f4 tt (86400 : Int64)) + (1 : Int64)) * (86400 : Int64) + s0.toInt64)), .second, .val (.long rr), .second, .val (.long (tt - rr)), .second, .val (.long (((tt - rr) + (86400 : Int64)) + s0.toInt64)), .second] [(.int (XT.cmpL (((own_f4 tt (86400 : Int64)) + (1 : Int64)) * (86400 : Int64) + s0.toInt64) (((tt - rr) + (86400 : Int64)) + s0.toInt64)))]))
                  refine Go.s (fun kz => XS.ifNo X36.here hx rfl (hb hby at_326) rfl (XT.ll_ne_f (own_got2 tt rr s0 hrr)) kz) ?_
                  show Go p.tables e below P (T36.setTop (mkF m 329 #[.val (.int p0), .val (.int p1), .val (.int p2), .val (.int p3), .val (.long tt), .second, .val (.int (3 : Int32)), .val (.int s0), .val (.int s1), .val (.int c2), t3, .val (.ref b23), .val (.ref b30), .val (.long (((own_f4 tt (86400 : Int64)) + (1 : Int64)) * (86400 : Int64) + s0.toInt64)), .second, .val (.long rr), .second, .val (.long (tt - rr)), .second, .val (.long (((tt - rr) + (86400 : Int64)) + s0.toInt64)), .second] []))
                  refine Go.s (fun kz => XS.iconst X36.here hx rfl (hb hby at_329) kz) ?_
                  refine Go.s (fun kz => XS.goto X36.here hx rfl (pc0 := 330) (pc' := 334) rfl (hb hby at_330) (by decide) (by decide) kz) ?_
                  show Go p.tables e below P (T36.setTop (mkF m 334 #[.val (.int p0), .val (.int p1), .val (.int p2), .val (.int p3), .val (.long tt), .second, .val (.int (3 : Int32)), .val (.int s0), .val (.int s1), .val (.int c2), t3, .val (.ref b23), .val (.ref b30), .val (.long (((own_f4 tt (86400 : Int64)) + (1 : Int64)) * (86400 : Int64) + s0.toInt64)), .second, .val (.long rr), .second, .val (.long (tt - rr)), .second, .val (.long (((tt - rr) + (86400 : Int64)) + s0.toInt64)), .second] [(.int (1 : Int32))]))
                  exact Go.retZ X36 hx hlk hret (by decide) (hb hby at_334) (fun U hU hF => hP U _ _ ⟨rfl, N36⟩ ⟨hF.1, hF.2.1, hF.2.2.mono (by decide) (by decide)⟩)
                refine Go.s (fun kz => XT.lload X36.here hx rfl (hb hby at_215) rfl kz) ?_
                refine Go.s (fun kz => XT.lconst X36.here hx rfl (hb hby at_217) kz) ?_
                refine Go.s (fun kz => XT.lcmp X36.here hx rfl (hb hby at_218) rfl kz) ?_
                show Go p.tables e below P (T36.setTop (mkF m 219 #[.val (.int p0), .val (.int p1), .val (.int p2), .val (.int p3), .val (.long tt), .second, .val (.int (3 : Int32)), .val (.int s0), .val (.int s1), .val (.int c2), t3, .val (.ref b23), .val (.ref b30), .val (.long (((own_f4 tt (86400 : Int64)) + (1 : Int64)) * (86400 : Int64) + s0.toInt64)), .second, .val (.long (tt % (86400 : Int64))), .second, .unset, .unset, .unset, .unset] [(.int (XT.cmpL (tt % (86400 : Int64)) (0 : Int64)))]))
                by_cases hc219 : (tt % (86400 : Int64)) < (0 : Int64)
                · skip
                  refine Go.s (fun kz => XS.ifNo X36.here hx rfl (hb hby at_219) rfl (XT.ll_ge_f hc219) kz) ?_
                  show Go p.tables e below P (T36.setTop (mkF m 222 #[.val (.int p0), .val (.int p1), .val (.int p2), .val (.int p3), .val (.long tt), .second, .val (.int (3 : Int32)), .val (.int s0), .val (.int s1), .val (.int c2), t3, .val (.ref b23), .val (.ref b30), .val (.long (((own_f4 tt (86400 : Int64)) + (1 : Int64)) * (86400 : Int64) + s0.toInt64)), .second, .val (.long (tt % (86400 : Int64))), .second, .unset, .unset, .unset, .unset] []))
                  refine Go.s (fun kz => XT.lload X36.here hx rfl (hb hby at_222) rfl kz) ?_
                  refine Go.s (fun kz => X36.ldc2J hx hown (mvT hZ (hw _ (List.mem_of_getElem? (i := 38) rfl))) rfl (hb hby at_224) kz) ?_
                  refine Go.s (fun kz => XT.ladd X36.here hx rfl (hb hby at_227) rfl kz) ?_
                  refine Go.s (fun kz => XT.lstore X36.here hx rfl (hb hby at_228) rfl (l' := #[.val (.int p0), .val (.int p1), .val (.int p2), .val (.int p3), .val (.long tt), .second, .val (.int (3 : Int32)), .val (.int s0), .val (.int s1), .val (.int c2), t3, .val (.ref b23), .val (.ref b30), .val (.long (((own_f4 tt (86400 : Int64)) + (1 : Int64)) * (86400 : Int64) + s0.toInt64)), .second, .val (.long ((tt % (86400 : Int64)) + (86400 : Int64))), .second, .unset, .unset, .unset, .unset]) rfl kz) ?_
                  show Go p.tables e below P (T36.setTop (mkF m 230 #[.val (.int p0), .val (.int p1), .val (.int p2), .val (.int p3), .val (.long tt), .second, .val (.int (3 : Int32)), .val (.int s0), .val (.int s1), .val (.int c2), t3, .val (.ref b23), .val (.ref b30), .val (.long (((own_f4 tt (86400 : Int64)) + (1 : Int64)) * (86400 : Int64) + s0.toInt64)), .second, .val (.long ((tt % (86400 : Int64)) + (86400 : Int64))), .second, .unset, .unset, .unset, .unset] []))
                  exact J230 ((tt % (86400 : Int64)) + (86400 : Int64)) ((own_rr tt).2 hc219)
                · skip
                  refine Go.s (fun kz => XS.ifYes X36.here hx rfl (pc0 := 219) (pc' := 230) rfl (hb hby at_219) rfl (XT.ll_ge_t hc219) (by decide) (by decide) kz) ?_
                  show Go p.tables e below P (T36.setTop (mkF m 230 #[.val (.int p0), .val (.int p1), .val (.int p2), .val (.int p3), .val (.long tt), .second, .val (.int (3 : Int32)), .val (.int s0), .val (.int s1), .val (.int c2), t3, .val (.ref b23), .val (.ref b30), .val (.long (((own_f4 tt (86400 : Int64)) + (1 : Int64)) * (86400 : Int64) + s0.toInt64)), .second, .val (.long (tt % (86400 : Int64))), .second, .unset, .unset, .unset, .unset] []))
                  exact J230 (tt % (86400 : Int64)) ((own_rr tt).1 hc219)
              · skip
                refine Go.s (fun {t} => st36) ?_
                show Go p.tables e below P (T36.setTop (mkF m 205 #[.val (.int p0), .val (.int p1), .val (.int p2), .val (.int p3), .val (.long tt), .second, .val (.int (3 : Int32)), .val (.int s0), .val (.int s1), .val (.int c2), t3, .val (.ref b23), .val (.ref b30), .unset, .unset, .unset, .unset, .unset, .unset, .unset, .unset] [(.long ((own_f4 tt (86400 : Int64)) * (86400 : Int64) + c2.toInt64))]))
                have hk := own_key tt
                have c2' : (2 : Int32).toInt = 2 := rfl
                have m0 := k0
                rw [Int32.lt_iff_toInt_lt, hk] at m0
                have m1 := k1
                rw [Int32.lt_iff_toInt_lt, hk] at m1
                have m2 := k2
                rw [Int32.lt_iff_toInt_lt, hk] at m2
                refine Go.s (fun kz => XT.lstore X36.here hx rfl (hb hby at_205) rfl (l' := #[.val (.int p0), .val (.int p1), .val (.int p2), .val (.int p3), .val (.long tt), .second, .val (.int (3 : Int32)), .val (.int s0), .val (.int s1), .val (.int c2), t3, .val (.ref b23), .val (.ref b30), .val (.long ((own_f4 tt (86400 : Int64)) * (86400 : Int64) + c2.toInt64)), .second, .unset, .unset, .unset, .unset, .unset, .unset]) rfl kz) ?_
                refine Go.s (fun kz => XT.lload X36.here hx rfl (hb hby at_207) rfl kz) ?_
                refine Go.s (fun kz => X36.ldc2J hx hown (mvT hZ (hw _ (List.mem_of_getElem? (i := 38) rfl))) rfl (hb hby at_209) kz) ?_
                show Go p.tables e below P (T36.setTop (mkF m 212 #[.val (.int p0), .val (.int p1), .val (.int p2), .val (.int p3), .val (.long tt), .second, .val (.int (3 : Int32)), .val (.int s0), .val (.int s1), .val (.int c2), t3, .val (.ref b23), .val (.ref b30), .val (.long ((own_f4 tt (86400 : Int64)) * (86400 : Int64) + c2.toInt64)), .second, .unset, .unset, .unset, .unset, .unset, .unset] [(.long (86400 : Int64)), (.long tt)]))
                refine Go.s (fun kz => lremM X36 hx rfl (hb hby at_212) rfl (by decide) kz) ?_
                refine Go.s (fun kz => XT.lstore X36.here hx rfl (hb hby at_213) rfl (l' := #[.val (.int p0), .val (.int p1), .val (.int p2), .val (.int p3), .val (.long tt), .second, .val (.int (3 : Int32)), .val (.int s0), .val (.int s1), .val (.int c2), t3, .val (.ref b23), .val (.ref b30), .val (.long ((own_f4 tt (86400 : Int64)) * (86400 : Int64) + c2.toInt64)), .second, .val (.long (tt % (86400 : Int64))), .second, .unset, .unset, .unset, .unset]) rfl kz) ?_
                show Go p.tables e below P (T36.setTop (mkF m 215 #[.val (.int p0), .val (.int p1), .val (.int p2), .val (.int p3), .val (.long tt), .second, .val (.int (3 : Int32)), .val (.int s0), .val (.int s1), .val (.int c2), t3, .val (.ref b23), .val (.ref b30), .val (.long ((own_f4 tt (86400 : Int64)) * (86400 : Int64) + c2.toInt64)), .second, .val (.long (tt % (86400 : Int64))), .second, .unset, .unset, .unset, .unset] []))
                have J230 : ∀ (rr : Int64) (hrr : rr.toInt = tt.toInt % 86400), Go p.tables e below P (T36.setTop (mkF m 230 #[.val (.int p0), .val (.int p1), .val (.int p2), .val (.int p3), .val (.long tt), .second, .val (.int (3 : Int32)), .val (.int s0), .val (.int s1), .val (.int c2), t3, .val (.ref b23), .val (.ref b30), .val (.long ((own_f4 tt (86400 : Int64)) * (86400 : Int64) + c2.toInt64)), .second, .val (.long rr), .second, .unset, .unset, .unset, .unset] [])) := by
                  intro rr hrr
                  refine Go.s (fun kz => XT.lload X36.here hx rfl (hb hby at_230) rfl kz) ?_
                  refine Go.s (fun kz => XT.lload X36.here hx rfl (hb hby at_232) rfl kz) ?_
                  refine Go.s (fun kz => XT.lsub X36.here hx rfl (hb hby at_234) rfl kz) ?_
                  refine Go.s (fun kz => XT.lstore X36.here hx rfl (hb hby at_235) rfl (l' := #[.val (.int p0), .val (.int p1), .val (.int p2), .val (.int p3), .val (.long tt), .second, .val (.int (3 : Int32)), .val (.int s0), .val (.int s1), .val (.int c2), t3, .val (.ref b23), .val (.ref b30), .val (.long ((own_f4 tt (86400 : Int64)) * (86400 : Int64) + c2.toInt64)), .second, .val (.long rr), .second, .val (.long (tt - rr)), .second, .unset, .unset]) rfl kz) ?_
                  refine Go.s (fun kz => XT.lload X36.here hx rfl (hb hby at_237) rfl kz) ?_
                  refine Go.s (fun kz => XS.iload X36.here hx rfl (hb hby at_239) rfl kz) ?_
                  show Go p.tables e below P (T36.setTop (mkF m 241 #[.val (.int p0), .val (.int p1), .val (.int p2), .val (.int p3), .val (.long tt), .second, .val (.int (3 : Int32)), .val (.int s0), .val (.int s1), .val (.int c2), t3, .val (.ref b23), .val (.ref b30), .val (.long ((own_f4 tt (86400 : Int64)) * (86400 : Int64) + c2.toInt64)), .second, .val (.long rr), .second, .val (.long (tt - rr)), .second, .unset, .unset] [(.int s0), (.long rr)]))
                  refine Go.s (fun kz => XT.i2l X36.here hx rfl (hb hby at_241) rfl kz) ?_
                  refine Go.s (fun kz => XT.lcmp X36.here hx rfl (hb hby at_242) rfl kz) ?_
                  show Go p.tables e below P (T36.setTop (mkF m 243 #[.val (.int p0), .val (.int p1), .val (.int p2), .val (.int p3), .val (.long tt), .second, .val (.int (3 : Int32)), .val (.int s0), .val (.int s1), .val (.int c2), t3, .val (.ref b23), .val (.ref b30), .val (.long ((own_f4 tt (86400 : Int64)) * (86400 : Int64) + c2.toInt64)), .second, .val (.long rr), .second, .val (.long (tt - rr)), .second, .unset, .unset] [(.int (XT.cmpL rr s0.toInt64))]))
                  refine Go.s (fun kz => XS.ifYes X36.here hx rfl (pc0 := 243) (pc' := 257) rfl (hb hby at_243) rfl (XT.ll_gt_t (by have z104 := hc104; rw [← Int32.toInt_inj] at z104; have z119 := hc119; rw [← Int32.toInt_inj] at z119; rw [Int64.lt_iff_toInt_lt, Jvm.Kit.i64_of_i32]; omega)) (by decide) (by decide) kz) ?_
                  show Go p.tables e below P (T36.setTop (mkF m 257 #[.val (.int p0), .val (.int p1), .val (.int p2), .val (.int p3), .val (.long tt), .second, .val (.int (3 : Int32)), .val (.int s0), .val (.int s1), .val (.int c2), t3, .val (.ref b23), .val (.ref b30), .val (.long ((own_f4 tt (86400 : Int64)) * (86400 : Int64) + c2.toInt64)), .second, .val (.long rr), .second, .val (.long (tt - rr)), .second, .unset, .unset] []))
                  refine Go.s (fun kz => XS.iload X36.here hx rfl (hb hby at_257) rfl kz) ?_
                  refine Go.s (fun kz => XS.iconst X36.here hx rfl (hb hby at_259) kz) ?_
                  show Go p.tables e below P (T36.setTop (mkF m 260 #[.val (.int p0), .val (.int p1), .val (.int p2), .val (.int p3), .val (.long tt), .second, .val (.int (3 : Int32)), .val (.int s0), .val (.int s1), .val (.int c2), t3, .val (.ref b23), .val (.ref b30), .val (.long ((own_f4 tt (86400 : Int64)) * (86400 : Int64) + c2.toInt64)), .second, .val (.long rr), .second, .val (.long (tt - rr)), .second, .unset, .unset] [(.int (2 : Int32)), (.int (3 : Int32))]))
                  refine Go.s (fun kz => XS.icmpNo X36.here hx rfl (hb hby at_260) rfl (XT.ii_lt_f (by decide)) kz) ?_
                  show Go p.tables e below P (T36.setTop (mkF m 263 #[.val (.int p0), .val (.int p1), .val (.int p2), .val (.int p3), .val (.long tt), .second, .val (.int (3 : Int32)), .val (.int s0), .val (.int s1), .val (.int c2), t3, .val (.ref b23), .val (.ref b30), .val (.long ((own_f4 tt (86400 : Int64)) * (86400 : Int64) + c2.toInt64)), .second, .val (.long rr), .second, .val (.long (tt - rr)), .second, .unset, .unset] []))
                  refine Go.s (fun kz => XT.lload X36.here hx rfl (hb hby at_263) rfl kz) ?_
                  refine Go.s (fun kz => XS.iload X36.here hx rfl (hb hby at_265) rfl kz) ?_
                  refine Go.s (fun kz => XT.i2l X36.here hx rfl (hb hby at_267) rfl kz) ?_
                  refine Go.s (fun kz => XT.lcmp X36.here hx rfl (hb hby at_268) rfl kz) ?_
                  show Go p.tables e below P (T36.setTop (mkF m 269 #[.val (.int p0), .val (.int p1), .val (.int p2), .val (.int p3), .val (.long tt), .second, .val (.int (3 : Int32)), .val (.int s0), .val (.int s1), .val (.int c2), t3, .val (.ref b23), .val (.ref b30), .val (.long ((own_f4 tt (86400 : Int64)) * (86400 : Int64) + c2.toInt64)), .second, .val (.long rr), .second, .val (.long (tt - rr)), .second, .unset, .unset] [(.int (XT.cmpL rr s1.toInt64))]))
                  refine Go.s (fun kz => XS.ifYes X36.here hx rfl (pc0 := 269) (pc' := 283) rfl (hb hby at_269) rfl (XT.ll_gt_t (by have z104 := hc104; rw [← Int32.toInt_inj] at z104; have z119 := hc119; rw [← Int32.toInt_inj] at z119; rw [Int64.lt_iff_toInt_lt, Jvm.Kit.i64_of_i32]; omega)) (by decide) (by decide) kz) ?_
                  show Go p.tables e below P (T36.setTop (mkF m 283 #[.val (.int p0), .val (.int p1), .val (.int p2), .val (.int p3), .val (.long tt), .second, .val (.int (3 : Int32)), .val (.int s0), .val (.int s1), .val (.int c2), t3, .val (.ref b23), .val (.ref b30), .val (.long ((own_f4 tt (86400 : Int64)) * (86400 : Int64) + c2.toInt64)), .second, .val (.long rr), .second, .val (.long (tt - rr)), .second, .unset, .unset] []))
                  refine Go.s (fun kz => XS.iload X36.here hx rfl (hb hby at_283) rfl kz) ?_
                  refine Go.s (fun kz => XS.iconst X36.here hx rfl (hb hby at_285) kz) ?_
                  show Go p.tables e below P (T36.setTop (mkF m 286 #[.val (.int p0), .val (.int p1), .val (.int p2), .val (.int p3), .val (.long tt), .second, .val (.int (3 : Int32)), .val (.int s0), .val (.int s1), .val (.int c2), t3, .val (.ref b23), .val (.ref b30), .val (.long ((own_f4 tt (86400 : Int64)) * (86400 : Int64) + c2.toInt64)), .second, .val (.long rr), .second, .val (.long (tt - rr)), .second, .unset, .unset] [(.int (3 : Int32)), (.int (3 : Int32))]))
                  refine Go.s (fun kz => XS.icmpNo X36.here hx rfl (hb hby at_286) rfl (XT.ii_lt_f (by decide)) kz) ?_
                  show Go p.tables e below P (T36.setTop (mkF m 289 #[.val (.int p0), .val (.int p1), .val (.int p2), .val (.int p3), .val (.long tt), .second, .val (.int (3 : Int32)), .val (.int s0), .val (.int s1), .val (.int c2), t3, .val (.ref b23), .val (.ref b30), .val (.long ((own_f4 tt (86400 : Int64)) * (86400 : Int64) + c2.toInt64)), .second, .val (.long rr), .second, .val (.long (tt - rr)), .second, .unset, .unset] []))
                  refine Go.s (fun kz => XT.lload X36.here hx rfl (hb hby at_289) rfl kz) ?_
                  refine Go.s (fun kz => XS.iload X36.here hx rfl (hb hby at_291) rfl kz) ?_
                  refine Go.s (fun kz => XT.i2l X36.here hx rfl (hb hby at_293) rfl kz) ?_
                  refine Go.s (fun kz => XT.lcmp X36.here hx rfl (hb hby at_294) rfl kz) ?_
                  show Go p.tables e below P (T36.setTop (mkF m 295 #[.val (.int p0), .val (.int p1), .val (.int p2), .val (.int p3), .val (.long tt), .second, .val (.int (3 : Int32)), .val (.int s0), .val (.int s1), .val (.int c2), t3, .val (.ref b23), .val (.ref b30), .val (.long ((own_f4 tt (86400 : Int64)) * (86400 : Int64) + c2.toInt64)), .second, .val (.long rr), .second, .val (.long (tt - rr)), .second, .unset, .unset] [(.int (XT.cmpL rr c2.toInt64))]))
                  refine Go.s (fun kz => XS.ifNo X36.here hx rfl (hb hby at_295) rfl (XT.ll_gt_f (by have z104 := hc104; rw [← Int32.toInt_inj] at z104; have z119 := hc119; rw [← Int32.toInt_inj] at z119; rw [Int64.lt_iff_toInt_lt, Jvm.Kit.i64_of_i32]; omega)) kz) ?_
                  show Go p.tables e below P (T36.setTop (mkF m 298 #[.val (.int p0), .val (.int p1), .val (.int p2), .val (.int p3), .val (.long tt), .second, .val (.int (3 : Int32)), .val (.int s0), .val (.int s1), .val (.int c2), t3, .val (.ref b23), .val (.ref b30), .val (.long ((own_f4 tt (86400 : Int64)) * (86400 : Int64) + c2.toInt64)), .second, .val (.long rr), .second, .val (.long (tt - rr)), .second, .unset, .unset] []))
                  refine Go.s (fun kz => XT.lload X36.here hx rfl (hb hby at_298) rfl kz) ?_
                  refine Go.s (fun kz => XS.iload X36.here hx rfl (hb hby at_300) rfl kz) ?_
                  refine Go.s (fun kz => XT.i2l X36.here hx rfl (hb hby at_302) rfl kz) ?_
                  refine Go.s (fun kz => XT.ladd X36.here hx rfl (hb hby at_303) rfl kz) ?_
                  refine Go.s (fun kz => XT.lstore X36.here hx rfl (hb hby at_304) rfl (l' := #[.val (.int p0), .val (.int p1), .val (.int p2), .val (.int p3), .val (.long tt), .second, .val (.int (3 : Int32)), .val (.int s0), .val (.int s1), .val (.int c2), t3, .val (.ref b23), .val (.ref b30), .val (.long ((own_f4 tt (86400 : Int64)) * (86400 : Int64) + c2.toInt64)), .second, .val (.long rr), .second, .val (.long (tt - rr)), .second, .val (.long ((tt - rr) + c2.toInt64)), .second]) rfl kz) ?_
                  refine Go.s (fun kz => XS.goto X36.here hx rfl (pc0 := 306) (pc' := 321) rfl (hb hby at_306) (by decide) (by decide) kz) ?_
                  show Go p.tables e below P (T36.setTop (mkF m 321 #[.val (.int p0), .val (.int p1), .val (.int p2), .val (.int p3), .val (.long tt), .second, .val (.int (3 : Int32)), .val (.int s0), .val (.int s1), .val (.int c2), t3, .val (.ref b23), .val (.ref b30), .val (.long ((own_f4 tt (86400 : Int64)) * (86400 : Int64) + c2.toInt64)), .second, .val (.long rr), .second, .val (.long (tt - rr)), .second, .val (.long ((tt - rr) + c2.toInt64)), .second] []))
                  refine Go.s (fun kz => XT.lload X36.here hx rfl (hb hby at_321) rfl kz) ?_
                  show Go p.tables e below P (T36.setTop (mkF m 323 #[.val (.int p0), .val (.int p1), .val (.int p2), .val (.int p3), .val (.long tt), .second, .val (.int (3 : Int32)), .val (.int s0), .val (.int s1), .val (.int c2), t3, .val (.ref b23), .val (.ref b30), .val (.long ((own_f4 tt (86400 : Int64)) * (86400 : Int64) + c2.toInt64)), .second, .val (.long rr), .second, .val (.long (tt - rr)), .second, .val (.long ((tt - rr) + c2.toInt64)), .second] [(.long ((own_f4 tt (86400 : Int64)) * (86400 : Int64) + c2.toInt64))]))
                  refine Go.s (fun kz => XT.lload X36.here hx rfl (hb hby at_323) rfl kz) ?_
                  refine Go.s (fun kz => XT.lcmp X36.here hx rfl (hb hby at_325) rfl kz) ?_
                  show Go p.tables e below P (T36.setTop (mkF m 326 #[.val (.int p0), .val (.int p1), .val (.int p2), .val (.int p3), .val (.long tt), .second, .val (.int (3 : Int32)), .val (.int s0), .val (.int s1), .val (.int c2), t3, .val (.ref b23), .val (.ref b30), .val (.long ((own_f4 tt (86400 : Int64)) * (86400 : Int64) + c2.toInt64)), .second, .val (.long rr), .second, .val (.long (tt - rr)), .second, .val (.long ((tt - rr) + c2.toInt64)), .second] [(.int (XT.cmpL ((own_f4 tt (86400 : Int64)) * (86400 : Int64) + c2.toInt64) ((tt - rr) + c2.toInt64)))]))
                  refine Go.s (fun kz => XS.ifNo X36.here hx rfl (hb hby at_326) rfl (XT.ll_ne_f (own_got tt rr c2 hrr)) kz) ?_
                  show Go p.tables e below P (T36.setTop (mkF m 329 #[.val (.int p0), .val (.int p1), .val (.int p2), .val (.int p3), .val (.long tt), .second, .val (.int (3 : Int32)), .val (.int s0), .val (.int s1), .val (.int c2), t3, .val (.ref b23), .val (.ref b30), .val (.long ((own_f4 tt (86400 : Int64)) * (86400 : Int64) + c2.toInt64)), .second, .val (.long rr), .second, .val (.long (tt - rr)), .second, .val (.long ((tt - rr) + c2.toInt64)), .second] []))
                  refine Go.s (fun kz => XS.iconst X36.here hx rfl (hb hby at_329) kz) ?_
                  refine Go.s (fun kz => XS.goto X36.here hx rfl (pc0 := 330) (pc' := 334) rfl (hb hby at_330) (by decide) (by decide) kz) ?_
                  show Go p.tables e below P (T36.setTop (mkF m 334 #[.val (.int p0), .val (.int p1), .val (.int p2), .val (.int p3), .val (.long tt), .second, .val (.int (3 : Int32)), .val (.int s0), .val (.int s1), .val (.int c2), t3, .val (.ref b23), .val (.ref b30), .val (.long ((own_f4 tt (86400 : Int64)) * (86400 : Int64) + c2.toInt64)), .second, .val (.long rr), .second, .val (.long (tt - rr)), .second, .val (.long ((tt - rr) + c2.toInt64)), .second] [(.int (1 : Int32))]))
                  exact Go.retZ X36 hx hlk hret (by decide) (hb hby at_334) (fun U hU hF => hP U _ _ ⟨rfl, N36⟩ ⟨hF.1, hF.2.1, hF.2.2.mono (by decide) (by decide)⟩)
                refine Go.s (fun kz => XT.lload X36.here hx rfl (hb hby at_215) rfl kz) ?_
                refine Go.s (fun kz => XT.lconst X36.here hx rfl (hb hby at_217) kz) ?_
                refine Go.s (fun kz => XT.lcmp X36.here hx rfl (hb hby at_218) rfl kz) ?_
                show Go p.tables e below P (T36.setTop (mkF m 219 #[.val (.int p0), .val (.int p1), .val (.int p2), .val (.int p3), .val (.long tt), .second, .val (.int (3 : Int32)), .val (.int s0), .val (.int s1), .val (.int c2), t3, .val (.ref b23), .val (.ref b30), .val (.long ((own_f4 tt (86400 : Int64)) * (86400 : Int64) + c2.toInt64)), .second, .val (.long (tt % (86400 : Int64))), .second, .unset, .unset, .unset, .unset] [(.int (XT.cmpL (tt % (86400 : Int64)) (0 : Int64)))]))
                by_cases hc219 : (tt % (86400 : Int64)) < (0 : Int64)
                · skip
                  refine Go.s (fun kz => XS.ifNo X36.here hx rfl (hb hby at_219) rfl (XT.ll_ge_f hc219) kz) ?_
                  show Go p.tables e below P (T36.setTop (mkF m 222 #[.val (.int p0), .val (.int p1), .val (.int p2), .val (.int p3), .val (.long tt), .second, .val (.int (3 : Int32)), .val (.int s0), .val (.int s1), .val (.int c2), t3, .val (.ref b23), .val (.ref b30), .val (.long ((own_f4 tt (86400 : Int64)) * (86400 : Int64) + c2.toInt64)), .second, .val (.long (tt % (86400 : Int64))), .second, .unset, .unset, .unset, .unset] []))
                  refine Go.s (fun kz => XT.lload X36.here hx rfl (hb hby at_222) rfl kz) ?_
                  refine Go.s (fun kz => X36.ldc2J hx hown (mvT hZ (hw _ (List.mem_of_getElem? (i := 38) rfl))) rfl (hb hby at_224) kz) ?_
                  refine Go.s (fun kz => XT.ladd X36.here hx rfl (hb hby at_227) rfl kz) ?_
                  refine Go.s (fun kz => XT.lstore X36.here hx rfl (hb hby at_228) rfl (l' := #[.val (.int p0), .val (.int p1), .val (.int p2), .val (.int p3), .val (.long tt), .second, .val (.int (3 : Int32)), .val (.int s0), .val (.int s1), .val (.int c2), t3, .val (.ref b23), .val (.ref b30), .val (.long ((own_f4 tt (86400 : Int64)) * (86400 : Int64) + c2.toInt64)), .second, .val (.long ((tt % (86400 : Int64)) + (86400 : Int64))), .second, .unset, .unset, .unset, .unset]) rfl kz) ?_
                  show Go p.tables e below P (T36.setTop (mkF m 230 #[.val (.int p0), .val (.int p1), .val (.int p2), .val (.int p3), .val (.long tt), .second, .val (.int (3 : Int32)), .val (.int s0), .val (.int s1), .val (.int c2), t3, .val (.ref b23), .val (.ref b30), .val (.long ((own_f4 tt (86400 : Int64)) * (86400 : Int64) + c2.toInt64)), .second, .val (.long ((tt % (86400 : Int64)) + (86400 : Int64))), .second, .unset, .unset, .unset, .unset] []))
                  exact J230 ((tt % (86400 : Int64)) + (86400 : Int64)) ((own_rr tt).2 hc219)
                · skip
                  refine Go.s (fun kz => XS.ifYes X36.here hx rfl (pc0 := 219) (pc' := 230) rfl (hb hby at_219) rfl (XT.ll_ge_t hc219) (by decide) (by decide) kz) ?_
                  show Go p.tables e below P (T36.setTop (mkF m 230 #[.val (.int p0), .val (.int p1), .val (.int p2), .val (.int p3), .val (.long tt), .second, .val (.int (3 : Int32)), .val (.int s0), .val (.int s1), .val (.int c2), t3, .val (.ref b23), .val (.ref b30), .val (.long ((own_f4 tt (86400 : Int64)) * (86400 : Int64) + c2.toInt64)), .second, .val (.long (tt % (86400 : Int64))), .second, .unset, .unset, .unset, .unset] []))
                  exact J230 (tt % (86400 : Int64)) ((own_rr tt).1 hc219)
              · skip
                refine Go.s (fun {t} => st36) ?_
                show Go p.tables e below P (T36.setTop (mkF m 205 #[.val (.int p0), .val (.int p1), .val (.int p2), .val (.int p3), .val (.long tt), .second, .val (.int (3 : Int32)), .val (.int s0), .val (.int s1), .val (.int c2), t3, .val (.ref b23), .val (.ref b30), .unset, .unset, .unset, .unset, .unset, .unset, .unset, .unset] [(.long ((own_f4 tt (86400 : Int64)) * (86400 : Int64) + c2.toInt64))]))
                have hk := own_key tt
                have c2' : (2 : Int32).toInt = 2 := rfl
                have m0 := k0
                rw [Int32.lt_iff_toInt_lt, hk] at m0
                have m1 := k1
                rw [Int32.lt_iff_toInt_lt, hk] at m1
                have m2 := k2
                rw [Int32.lt_iff_toInt_lt, hk] at m2
                refine Go.s (fun kz => XT.lstore X36.here hx rfl (hb hby at_205) rfl (l' := #[.val (.int p0), .val (.int p1), .val (.int p2), .val (.int p3), .val (.long tt), .second, .val (.int (3 : Int32)), .val (.int s0), .val (.int s1), .val (.int c2), t3, .val (.ref b23), .val (.ref b30), .val (.long ((own_f4 tt (86400 : Int64)) * (86400 : Int64) + c2.toInt64)), .second, .unset, .unset, .unset, .unset, .unset, .unset]) rfl kz) ?_
                refine Go.s (fun kz => XT.lload X36.here hx rfl (hb hby at_207) rfl kz) ?_
                refine Go.s (fun kz => X36.ldc2J hx hown (mvT hZ (hw _ (List.mem_of_getElem? (i := 38) rfl))) rfl (hb hby at_209) kz) ?_
                show Go p.tables e below P (T36.setTop (mkF m 212 #[.val (.int p0), .val (.int p1), .val (.int p2), .val (.int p3), .val (.long tt), .second, .val (.int (3 : Int32)), .val (.int s0), .val (.int s1), .val (.int c2), t3, .val (.ref b23), .val (.ref b30), .val (.long ((own_f4 tt (86400 : Int64)) * (86400 : Int64) + c2.toInt64)), .second, .unset, .unset, .unset, .unset, .unset, .unset] [(.long (86400 : Int64)), (.long tt)]))
                refine Go.s (fun kz => lremM X36 hx rfl (hb hby at_212) rfl (by decide) kz) ?_
                refine Go.s (fun kz => XT.lstore X36.here hx rfl (hb hby at_213) rfl (l' := #[.val (.int p0), .val (.int p1), .val (.int p2), .val (.int p3), .val (.long tt), .second, .val (.int (3 : Int32)), .val (.int s0), .val (.int s1), .val (.int c2), t3, .val (.ref b23), .val (.ref b30), .val (.long ((own_f4 tt (86400 : Int64)) * (86400 : Int64) + c2.toInt64)), .second, .val (.long (tt % (86400 : Int64))), .second, .unset, .unset, .unset, .unset]) rfl kz) ?_
                show Go p.tables e below P (T36.setTop (mkF m 215 #[.val (.int p0), .val (.int p1), .val (.int p2), .val (.int p3), .val (.long tt), .second, .val (.int (3 : Int32)), .val (.int s0), .val (.int s1), .val (.int c2), t3, .val (.ref b23), .val (.ref b30), .val (.long ((own_f4 tt (86400 : Int64)) * (86400 : Int64) + c2.toInt64)), .second, .val (.long (tt % (86400 : Int64))), .second, .unset, .unset, .unset, .unset] []))
                have J230 : ∀ (rr : Int64) (hrr : rr.toInt = tt.toInt % 86400), Go p.tables e below P (T36.setTop (mkF m 230 #[.val (.int p0), .val (.int p1), .val (.int p2), .val (.int p3), .val (.long tt), .second, .val (.int (3 : Int32)), .val (.int s0), .val (.int s1), .val (.int c2), t3, .val (.ref b23), .val (.ref b30), .val (.long ((own_f4 tt (86400 : Int64)) * (86400 : Int64) + c2.toInt64)), .second, .val (.long rr), .second, .unset, .unset, .unset, .unset] [])) := by
                  intro rr hrr
                  refine Go.s (fun kz => XT.lload X36.here hx rfl (hb hby at_230) rfl kz) ?_
                  refine Go.s (fun kz => XT.lload X36.here hx rfl (hb hby at_232) rfl kz) ?_
                  refine Go.s (fun kz => XT.lsub X36.here hx rfl (hb hby at_234) rfl kz) ?_
                  refine Go.s (fun kz => XT.lstore X36.here hx rfl (hb hby at_235) rfl (l' := #[.val (.int p0), .val (.int p1), .val (.int p2), .val (.int p3), .val (.long tt), .second, .val (.int (3 : Int32)), .val (.int s0), .val (.int s1), .val (.int c2), t3, .val (.ref b23), .val (.ref b30), .val (.long ((own_f4 tt (86400 : Int64)) * (86400 : Int64) + c2.toInt64)), .second, .val (.long rr), .second, .val (.long (tt - rr)), .second, .unset, .unset]) rfl kz) ?_
                  refine Go.s (fun kz => XT.lload X36.here hx rfl (hb hby at_237) rfl kz) ?_
                  refine Go.s (fun kz => XS.iload X36.here hx rfl (hb hby at_239) rfl kz) ?_
                  show Go p.tables e below P (T36.setTop (mkF m 241 #[.val (.int p0), .val (.int p1), .val (.int p2), .val (.int p3), .val (.long tt), .second, .val (.int (3 : Int32)), .val (.int s0), .val (.int s1), .val (.int c2), t3, .val (.ref b23), .val (.ref b30), .val (.long ((own_f4 tt (86400 : Int64)) * (86400 : Int64) + c2.toInt64)), .second, .val (.long rr), .second, .val (.long (tt - rr)), .second, .unset, .unset] [(.int s0), (.long rr)]))
                  refine Go.s (fun kz => XT.i2l X36.here hx rfl (hb hby at_241) rfl kz) ?_
                  refine Go.s (fun kz => XT.lcmp X36.here hx rfl (hb hby at_242) rfl kz) ?_
                  show Go p.tables e below P (T36.setTop (mkF m 243 #[.val (.int p0), .val (.int p1), .val (.int p2), .val (.int p3), .val (.long tt), .second, .val (.int (3 : Int32)), .val (.int s0), .val (.int s1), .val (.int c2), t3, .val (.ref b23), .val (.ref b30), .val (.long ((own_f4 tt (86400 : Int64)) * (86400 : Int64) + c2.toInt64)), .second, .val (.long rr), .second, .val (.long (tt - rr)), .second, .unset, .unset] [(.int (XT.cmpL rr s0.toInt64))]))
                  refine Go.s (fun kz => XS.ifYes X36.here hx rfl (pc0 := 243) (pc' := 257) rfl (hb hby at_243) rfl (XT.ll_gt_t (by have z104 := hc104; rw [← Int32.toInt_inj] at z104; have z119 := hc119; rw [← Int32.toInt_inj] at z119; rw [Int64.lt_iff_toInt_lt, Jvm.Kit.i64_of_i32]; omega)) (by decide) (by decide) kz) ?_
                  show Go p.tables e below P (T36.setTop (mkF m 257 #[.val (.int p0), .val (.int p1), .val (.int p2), .val (.int p3), .val (.long tt), .second, .val (.int (3 : Int32)), .val (.int s0), .val (.int s1), .val (.int c2), t3, .val (.ref b23), .val (.ref b30), .val (.long ((own_f4 tt (86400 : Int64)) * (86400 : Int64) + c2.toInt64)), .second, .val (.long rr), .second, .val (.long (tt - rr)), .second, .unset, .unset] []))
                  refine Go.s (fun kz => XS.iload X36.here hx rfl (hb hby at_257) rfl kz) ?_
                  refine Go.s (fun kz => XS.iconst X36.here hx rfl (hb hby at_259) kz) ?_
                  show Go p.tables e below P (T36.setTop (mkF m 260 #[.val (.int p0), .val (.int p1), .val (.int p2), .val (.int p3), .val (.long tt), .second, .val (.int (3 : Int32)), .val (.int s0), .val (.int s1), .val (.int c2), t3, .val (.ref b23), .val (.ref b30), .val (.long ((own_f4 tt (86400 : Int64)) * (86400 : Int64) + c2.toInt64)), .second, .val (.long rr), .second, .val (.long (tt - rr)), .second, .unset, .unset] [(.int (2 : Int32)), (.int (3 : Int32))]))
                  refine Go.s (fun kz => XS.icmpNo X36.here hx rfl (hb hby at_260) rfl (XT.ii_lt_f (by decide)) kz) ?_
                  show Go p.tables e below P (T36.setTop (mkF m 263 #[.val (.int p0), .val (.int p1), .val (.int p2), .val (.int p3), .val (.long tt), .second, .val (.int (3 : Int32)), .val (.int s0), .val (.int s1), .val (.int c2), t3, .val (.ref b23), .val (.ref b30), .val (.long ((own_f4 tt (86400 : Int64)) * (86400 : Int64) + c2.toInt64)), .second, .val (.long rr), .second, .val (.long (tt - rr)), .second, .unset, .unset] []))
                  refine Go.s (fun kz => XT.lload X36.here hx rfl (hb hby at_263) rfl kz) ?_
                  refine Go.s (fun kz => XS.iload X36.here hx rfl (hb hby at_265) rfl kz) ?_
                  refine Go.s (fun kz => XT.i2l X36.here hx rfl (hb hby at_267) rfl kz) ?_
                  refine Go.s (fun kz => XT.lcmp X36.here hx rfl (hb hby at_268) rfl kz) ?_
                  show Go p.tables e below P (T36.setTop (mkF m 269 #[.val (.int p0), .val (.int p1), .val (.int p2), .val (.int p3), .val (.long tt), .second, .val (.int (3 : Int32)), .val (.int s0), .val (.int s1), .val (.int c2), t3, .val (.ref b23), .val (.ref b30), .val (.long ((own_f4 tt (86400 : Int64)) * (86400 : Int64) + c2.toInt64)), .second, .val (.long rr), .second, .val (.long (tt - rr)), .second, .unset, .unset] [(.int (XT.cmpL rr s1.toInt64))]))
                  refine Go.s (fun kz => XS.ifYes X36.here hx rfl (pc0 := 269) (pc' := 283) rfl (hb hby at_269) rfl (XT.ll_gt_t (by have z104 := hc104; rw [← Int32.toInt_inj] at z104; have z119 := hc119; rw [← Int32.toInt_inj] at z119; rw [Int64.lt_iff_toInt_lt, Jvm.Kit.i64_of_i32]; omega)) (by decide) (by decide) kz) ?_
                  show Go p.tables e below P (T36.setTop (mkF m 283 #[.val (.int p0), .val (.int p1), .val (.int p2), .val (.int p3), .val (.long tt), .second, .val (.int (3 : Int32)), .val (.int s0), .val (.int s1), .val (.int c2), t3, .val (.ref b23), .val (.ref b30), .val (.long ((own_f4 tt (86400 : Int64)) * (86400 : Int64) + c2.toInt64)), .second, .val (.long rr), .second, .val (.long (tt - rr)), .second, .unset, .unset] []))
                  refine Go.s (fun kz => XS.iload X36.here hx rfl (hb hby at_283) rfl kz) ?_
                  refine Go.s (fun kz => XS.iconst X36.here hx rfl (hb hby at_285) kz) ?_
                  show Go p.tables e below P (T36.setTop (mkF m 286 #[.val (.int p0), .val (.int p1), .val (.int p2), .val (.int p3), .val (.long tt), .second, .val (.int (3 : Int32)), .val (.int s0), .val (.int s1), .val (.int c2), t3, .val (.ref b23), .val (.ref b30), .val (.long ((own_f4 tt (86400 : Int64)) * (86400 : Int64) + c2.toInt64)), .second, .val (.long rr), .second, .val (.long (tt - rr)), .second, .unset, .unset] [(.int (3 : Int32)), (.int (3 : Int32))]))
                  refine Go.s (fun kz => XS.icmpNo X36.here hx rfl (hb hby at_286) rfl (XT.ii_lt_f (by decide)) kz) ?_
                  show Go p.tables e below P (T36.setTop (mkF m 289 #[.val (.int p0), .val (.int p1), .val (.int p2), .val (.int p3), .val (.long tt), .second, .val (.int (3 : Int32)), .val (.int s0), .val (.int s1), .val (.int c2), t3, .val (.ref b23), .val (.ref b30), .val (.long ((own_f4 tt (86400 : Int64)) * (86400 : Int64) + c2.toInt64)), .second, .val (.long rr), .second, .val (.long (tt - rr)), .second, .unset, .unset] []))
                  refine Go.s (fun kz => XT.lload X36.here hx rfl (hb hby at_289) rfl kz) ?_
                  refine Go.s (fun kz => XS.iload X36.here hx rfl (hb hby at_291) rfl kz) ?_
                  refine Go.s (fun kz => XT.i2l X36.here hx rfl (hb hby at_293) rfl kz) ?_
                  refine Go.s (fun kz => XT.lcmp X36.here hx rfl (hb hby at_294) rfl kz) ?_
                  show Go p.tables e below P (T36.setTop (mkF m 295 #[.val (.int p0), .val (.int p1), .val (.int p2), .val (.int p3), .val (.long tt), .second, .val (.int (3 : Int32)), .val (.int s0), .val (.int s1), .val (.int c2), t3, .val (.ref b23), .val (.ref b30), .val (.long ((own_f4 tt (86400 : Int64)) * (86400 : Int64) + c2.toInt64)), .second, .val (.long rr), .second, .val (.long (tt - rr)), .second, .unset, .unset] [(.int (XT.cmpL rr c2.toInt64))]))
                  refine Go.s (fun kz => XS.ifNo X36.here hx rfl (hb hby at_295) rfl (XT.ll_gt_f (by have z104 := hc104; rw [← Int32.toInt_inj] at z104; have z119 := hc119; rw [← Int32.toInt_inj] at z119; rw [Int64.lt_iff_toInt_lt, Jvm.Kit.i64_of_i32]; omega)) kz) ?_
                  show Go p.tables e below P (T36.setTop (mkF m 298 #[.val (.int p0), .val (.int p1), .val (.int p2), .val (.int p3), .val (.long tt), .second, .val (.int (3 : Int32)), .val (.int s0), .val (.int s1), .val (.int c2), t3, .val (.ref b23), .val (.ref b30), .val (.long ((own_f4 tt (86400 : Int64)) * (86400 : Int64) + c2.toInt64)), .second, .val (.long rr), .second, .val (.long (tt - rr)), .second, .unset, .unset] []))
                  refine Go.s (fun kz => XT.lload X36.here hx rfl (hb hby at_298) rfl kz) ?_
                  refine Go.s (fun kz => XS.iload X36.here hx rfl (hb hby at_300) rfl kz) ?_
                  refine Go.s (fun kz => XT.i2l X36.here hx rfl (hb hby at_302) rfl kz) ?_
                  refine Go.s (fun kz => XT.ladd X36.here hx rfl (hb hby at_303) rfl kz) ?_
                  refine Go.s (fun kz => XT.lstore X36.here hx rfl (hb hby at_304) rfl (l' := #[.val (.int p0), .val (.int p1), .val (.int p2), .val (.int p3), .val (.long tt), .second, .val (.int (3 : Int32)), .val (.int s0), .val (.int s1), .val (.int c2), t3, .val (.ref b23), .val (.ref b30), .val (.long ((own_f4 tt (86400 : Int64)) * (86400 : Int64) + c2.toInt64)), .second, .val (.long rr), .second, .val (.long (tt - rr)), .second, .val (.long ((tt - rr) + c2.toInt64)), .second]) rfl kz) ?_
                  refine Go.s (fun kz => XS.goto X36.here hx rfl (pc0 := 306) (pc' := 321) rfl (hb hby at_306) (by decide) (by decide) kz) ?_
                  show Go p.tables e below P (T36.setTop (mkF m 321 #[.val (.int p0), .val (.int p1), .val (.int p2), .val (.int p3), .val (.long tt), .second, .val (.int (3 : Int32)), .val (.int s0), .val (.int s1), .val (.int c2), t3, .val (.ref b23), .val (.ref b30), .val (.long ((own_f4 tt (86400 : Int64)) * (86400 : Int64) + c2.toInt64)), .second, .val (.long rr), .second, .val (.long (tt - rr)), .second, .val (.long ((tt - rr) + c2.toInt64)), .second] []))
                  refine Go.s (fun kz => XT.lload X36.here hx rfl (hb hby at_321) rfl kz) ?_
                  show Go p.tables e below P (T36.setTop (mkF m 323 #[.val (.int p0), .val (.int p1), .val (.int p2), .val (.int p3), .val (.long tt), .second, .val (.int (3 : Int32)), .val (.int s0), .val (.int s1), .val (.int c2), t3, .val (.ref b23), .val (.ref b30), .val (.long ((own_f4 tt (86400 : Int64)) * (86400 : Int64) + c2.toInt64)), .second, .val (.long rr), .second, .val (.long (tt - rr)), .second, .val (.long ((tt - rr) + c2.toInt64)), .second] [(.long ((own_f4 tt (86400 : Int64)) * (86400 : Int64) + c2.toInt64))]))
                  refine Go.s (fun kz => XT.lload X36.here hx rfl (hb hby at_323) rfl kz) ?_
                  refine Go.s (fun kz => XT.lcmp X36.here hx rfl (hb hby at_325) rfl kz) ?_
                  show Go p.tables e below P (T36.setTop (mkF m 326 #[.val (.int p0), .val (.int p1), .val (.int p2), .val (.int p3), .val (.long tt), .second, .val (.int (3 : Int32)), .val (.int s0), .val (.int s1), .val (.int c2), t3, .val (.ref b23), .val (.ref b30), .val (.long ((own_f4 tt (86400 : Int64)) * (86400 : Int64) + c2.toInt64)), .second, .val (.long rr), .second, .val (.long (tt - rr)), .second, .val (.long ((tt - rr) + c2.toInt64)), .second] [(.int (XT.cmpL ((own_f4 tt (86400 : Int64)) * (86400 : Int64) + c2.toInt64) ((tt - rr) + c2.toInt64)))]))
                  refine Go.s (fun kz => XS.ifNo X36.here hx rfl (hb hby at_326) rfl (XT.ll_ne_f (own_got tt rr c2 hrr)) kz) ?_
                  show Go p.tables e below P (T36.setTop (mkF m 329 #[.val (.int p0), .val (.int p1), .val (.int p2), .val (.int p3), .val (.long tt), .second, .val (.int (3 : Int32)), .val (.int s0), .val (.int s1), .val (.int c2), t3, .val (.ref b23), .val (.ref b30), .val (.long ((own_f4 tt (86400 : Int64)) * (86400 : Int64) + c2.toInt64)), .second, .val (.long rr), .second, .val (.long (tt - rr)), .second, .val (.long ((tt - rr) + c2.toInt64)), .second] []))
                  refine Go.s (fun kz => XS.iconst X36.here hx rfl (hb hby at_329) kz) ?_
                  refine Go.s (fun kz => XS.goto X36.here hx rfl (pc0 := 330) (pc' := 334) rfl (hb hby at_330) (by decide) (by decide) kz) ?_
                  show Go p.tables e below P (T36.setTop (mkF m 334 #[.val (.int p0), .val (.int p1), .val (.int p2), .val (.int p3), .val (.long tt), .second, .val (.int (3 : Int32)), .val (.int s0), .val (.int s1), .val (.int c2), t3, .val (.ref b23), .val (.ref b30), .val (.long ((own_f4 tt (86400 : Int64)) * (86400 : Int64) + c2.toInt64)), .second, .val (.long rr), .second, .val (.long (tt - rr)), .second, .val (.long ((tt - rr) + c2.toInt64)), .second] [(.int (1 : Int32))]))
                  exact Go.retZ X36 hx hlk hret (by decide) (hb hby at_334) (fun U hU hF => hP U _ _ ⟨rfl, N36⟩ ⟨hF.1, hF.2.1, hF.2.2.mono (by decide) (by decide)⟩)
                refine Go.s (fun kz => XT.lload X36.here hx rfl (hb hby at_215) rfl kz) ?_
                refine Go.s (fun kz => XT.lconst X36.here hx rfl (hb hby at_217) kz) ?_
                refine Go.s (fun kz => XT.lcmp X36.here hx rfl (hb hby at_218) rfl kz) ?_
                show Go p.tables e below P (T36.setTop (mkF m 219 #[.val (.int p0), .val (.int p1), .val (.int p2), .val (.int p3), .val (.long tt), .second, .val (.int (3 : Int32)), .val (.int s0), .val (.int s1), .val (.int c2), t3, .val (.ref b23), .val (.ref b30), .val (.long ((own_f4 tt (86400 : Int64)) * (86400 : Int64) + c2.toInt64)), .second, .val (.long (tt % (86400 : Int64))), .second, .unset, .unset, .unset, .unset] [(.int (XT.cmpL (tt % (86400 : Int64)) (0 : Int64)))]))
                by_cases hc219 : (tt % (86400 : Int64)) < (0 : Int64)
                · skip
                  refine Go.s (fun kz => XS.ifNo X36.here hx rfl (hb hby at_219) rfl (XT.ll_ge_f hc219) kz) ?_
                  show Go p.tables e below P (T36.setTop (mkF m 222 #[.val (.int p0), .val (.int p1), .val (.int p2), .val (.int p3), .val (.long tt), .second, .val (.int (3 : Int32)), .val (.int s0), .val (.int s1), .val (.int c2), t3, .val (.ref b23), .val (.ref b30), .val (.long ((own_f4 tt (86400 : Int64)) * (86400 : Int64) + c2.toInt64)), .second, .val (.long (tt % (86400 : Int64))), .second, .unset, .unset, .unset, .unset] []))
                  refine Go.s (fun kz => XT.lload X36.here hx rfl (hb hby at_222) rfl kz) ?_
                  refine Go.s (fun kz => X36.ldc2J hx hown (mvT hZ (hw _ (List.mem_of_getElem? (i := 38) rfl))) rfl (hb hby at_224) kz) ?_
                  refine Go.s (fun kz => XT.ladd X36.here hx rfl (hb hby at_227) rfl kz) ?_
                  refine Go.s (fun kz => XT.lstore X36.here hx rfl (hb hby at_228) rfl (l' := #[.val (.int p0), .val (.int p1), .val (.int p2), .val (.int p3), .val (.long tt), .second, .val (.int (3 : Int32)), .val (.int s0), .val (.int s1), .val (.int c2), t3, .val (.ref b23), .val (.ref b30), .val (.long ((own_f4 tt (86400 : Int64)) * (86400 : Int64) + c2.toInt64)), .second, .val (.long ((tt % (86400 : Int64)) + (86400 : Int64))), .second, .unset, .unset, .unset, .unset]) rfl kz) ?_
                  show Go p.tables e below P (T36.setTop (mkF m 230 #[.val (.int p0), .val (.int p1), .val (.int p2), .val (.int p3), .val (.long tt), .second, .val (.int (3 : Int32)), .val (.int s0), .val (.int s1), .val (.int c2), t3, .val (.ref b23), .val (.ref b30), .val (.long ((own_f4 tt (86400 : Int64)) * (86400 : Int64) + c2.toInt64)), .second, .val (.long ((tt % (86400 : Int64)) + (86400 : Int64))), .second, .unset, .unset, .unset, .unset] []))
                  exact J230 ((tt % (86400 : Int64)) + (86400 : Int64)) ((own_rr tt).2 hc219)
                · skip
                  refine Go.s (fun kz => XS.ifYes X36.here hx rfl (pc0 := 219) (pc' := 230) rfl (hb hby at_219) rfl (XT.ll_ge_t hc219) (by decide) (by decide) kz) ?_
                  show Go p.tables e below P (T36.setTop (mkF m 230 #[.val (.int p0), .val (.int p1), .val (.int p2), .val (.int p3), .val (.long tt), .second, .val (.int (3 : Int32)), .val (.int s0), .val (.int s1), .val (.int c2), t3, .val (.ref b23), .val (.ref b30), .val (.long ((own_f4 tt (86400 : Int64)) * (86400 : Int64) + c2.toInt64)), .second, .val (.long (tt % (86400 : Int64))), .second, .unset, .unset, .unset, .unset] []))
                  exact J230 (tt % (86400 : Int64)) ((own_rr tt).1 hc219)
              · skip
                refine Go.s (fun {t} => st36) ?_
                show Go p.tables e below P (T36.setTop (mkF m 205 #[.val (.int p0), .val (.int p1), .val (.int p2), .val (.int p3), .val (.long tt), .second, .val (.int (3 : Int32)), .val (.int s0), .val (.int s1), .val (.int c2), t3, .val (.ref b23), .val (.ref b30), .unset, .unset, .unset, .unset, .unset, .unset, .unset, .unset] [(.long ((own_f4 tt (86400 : Int64)) * (86400 : Int64) + s1.toInt64))]))
                have hk := own_key tt
                have c2' : (2 : Int32).toInt = 2 := rfl
                have m0 := k0
                rw [Int32.lt_iff_toInt_lt, hk] at m0
                have m1 := k1
                rw [Int32.lt_iff_toInt_lt, hk] at m1
                have m2 := k2
                rw [Int32.lt_iff_toInt_lt, hk] at m2
                refine Go.s (fun kz => XT.lstore X36.here hx rfl (hb hby at_205) rfl (l' := #[.val (.int p0), .val (.int p1), .val (.int p2), .val (.int p3), .val (.long tt), .second, .val (.int (3 : Int32)), .val (.int s0), .val (.int s1), .val (.int c2), t3, .val (.ref b23), .val (.ref b30), .val (.long ((own_f4 tt (86400 : Int64)) * (86400 : Int64) + s1.toInt64)), .second, .unset, .unset, .unset, .unset, .unset, .unset]) rfl kz) ?_
                refine Go.s (fun kz => XT.lload X36.here hx rfl (hb hby at_207) rfl kz) ?_
                refine Go.s (fun kz => X36.ldc2J hx hown (mvT hZ (hw _ (List.mem_of_getElem? (i := 38) rfl))) rfl (hb hby at_209) kz) ?_
                show Go p.tables e below P (T36.setTop (mkF m 212 #[.val (.int p0), .val (.int p1), .val (.int p2), .val (.int p3), .val (.long tt), .second, .val (.int (3 : Int32)), .val (.int s0), .val (.int s1), .val (.int c2), t3, .val (.ref b23), .val (.ref b30), .val (.long ((own_f4 tt (86400 : Int64)) * (86400 : Int64) + s1.toInt64)), .second, .unset, .unset, .unset, .unset, .unset, .unset] [(.long (86400 : Int64)), (.long tt)]))
                refine Go.s (fun kz => lremM X36 hx rfl (hb hby at_212) rfl (by decide) kz) ?_
                refine Go.s (fun kz => XT.lstore X36.here hx rfl (hb hby at_213) rfl (l' := #[.val (.int p0), .val (.int p1), .val (.int p2), .val (.int p3), .val (.long tt), .second, .val (.int (3 : Int32)), .val (.int s0), .val (.int s1), .val (.int c2), t3, .val (.ref b23), .val (.ref b30), .val (.long ((own_f4 tt (86400 : Int64)) * (86400 : Int64) + s1.toInt64)), .second, .val (.long (tt % (86400 : Int64))), .second, .unset, .unset, .unset, .unset]) rfl kz) ?_
                show Go p.tables e below P (T36.setTop (mkF m 215 #[.val (.int p0), .val (.int p1), .val (.int p2), .val (.int p3), .val (.long tt), .second, .val (.int (3 : Int32)), .val (.int s0), .val (.int s1), .val (.int c2), t3, .val (.ref b23), .val (.ref b30), .val (.long ((own_f4 tt (86400 : Int64)) * (86400 : Int64) + s1.toInt64)), .second, .val (.long (tt % (86400 : Int64))), .second, .unset, .unset, .unset, .unset] []))
                have J230 : ∀ (rr : Int64) (hrr : rr.toInt = tt.toInt % 86400), Go p.tables e below P (T36.setTop (mkF m 230 #[.val (.int p0), .val (.int p1), .val (.int p2), .val (.int p3), .val (.long tt), .second, .val (.int (3 : Int32)), .val (.int s0), .val (.int s1), .val (.int c2), t3, .val (.ref b23), .val (.ref b30), .val (.long ((own_f4 tt (86400 : Int64)) * (86400 : Int64) + s1.toInt64)), .second, .val (.long rr), .second, .unset, .unset, .unset, .unset] [])) := by
                  intro rr hrr
                  refine Go.s (fun kz => XT.lload X36.here hx rfl (hb hby at_230) rfl kz) ?_
                  refine Go.s (fun kz => XT.lload X36.here hx rfl (hb hby at_232) rfl kz) ?_
                  refine Go.s (fun kz => XT.lsub X36.here hx rfl (hb hby at_234) rfl kz) ?_
                  refine Go.s (fun kz => XT.lstore X36.here hx rfl (hb hby at_235) rfl (l' := #[.val (.int p0), .val (.int p1), .val (.int p2), .val (.int p3), .val (.long tt), .second, .val (.int (3 : Int32)), .val (.int s0), .val (.int s1), .val (.int c2), t3, .val (.ref b23), .val (.ref b30), .val (.long ((own_f4 tt (86400 : Int64)) * (86400 : Int64) + s1.toInt64)), .second, .val (.long rr), .second, .val (.long (tt - rr)), .second, .unset, .unset]) rfl kz) ?_
                  refine Go.s (fun kz => XT.lload X36.here hx rfl (hb hby at_237) rfl kz) ?_
                  refine Go.s (fun kz => XS.iload X36.here hx rfl (hb hby at_239) rfl kz) ?_
                  show Go p.tables e below P (T36.setTop (mkF m 241 #[.val (.int p0), .val (.int p1), .val (.int p2), .val (.int p3), .val (.long tt), .second, .val (.int (3 : Int32)), .val (.int s0), .val (.int s1), .val (.int c2), t3, .val (.ref b23), .val (.ref b30), .val (.long ((own_f4 tt (86400 : Int64)) * (86400 : Int64) + s1.toInt64)), .second, .val (.long rr), .second, .val (.long (tt - rr)), .second, .unset, .unset] [(.int s0), (.long rr)]))
                  refine Go.s (fun kz => XT.i2l X36.here hx rfl (hb hby at_241) rfl kz) ?_
                  refine Go.s (fun kz => XT.lcmp X36.here hx rfl (hb hby at_242) rfl kz) ?_
                  show Go p.tables e below P (T36.setTop (mkF m 243 #[.val (.int p0), .val (.int p1), .val (.int p2), .val (.int p3), .val (.long tt), .second, .val (.int (3 : Int32)), .val (.int s0), .val (.int s1), .val (.int c2), t3, .val (.ref b23), .val (.ref b30), .val (.long ((own_f4 tt (86400 : Int64)) * (86400 : Int64) + s1.toInt64)), .second, .val (.long rr), .second, .val (.long (tt - rr)), .second, .unset, .unset] [(.int (XT.cmpL rr s0.toInt64))]))
                  refine Go.s (fun kz => XS.ifYes X36.here hx rfl (pc0 := 243) (pc' := 257) rfl (hb hby at_243) rfl (XT.ll_gt_t (by have z104 := hc104; rw [← Int32.toInt_inj] at z104; have z119 := hc119; rw [← Int32.toInt_inj] at z119; rw [Int64.lt_iff_toInt_lt, Jvm.Kit.i64_of_i32]; omega)) (by decide) (by decide) kz) ?_
                  show Go p.tables e below P (T36.setTop (mkF m 257 #[.val (.int p0), .val (.int p1), .val (.int p2), .val (.int p3), .val (.long tt), .second, .val (.int (3 : Int32)), .val (.int s0), .val (.int s1), .val (.int c2), t3, .val (.ref b23), .val (.ref b30), .val (.long ((own_f4 tt (86400 : Int64)) * (86400 : Int64) + s1.toInt64)), .second, .val (.long rr), .second, .val (.long (tt - rr)), .second, .unset, .unset] []))
                  refine Go.s (fun kz => XS.iload X36.here hx rfl (hb hby at_257) rfl kz) ?_
                  refine Go.s (fun kz => XS.iconst X36.here hx rfl (hb hby at_259) kz) ?_
                  show Go p.tables e below P (T36.setTop (mkF m 260 #[.val (.int p0), .val (.int p1), .val (.int p2), .val (.int p3), .val (.long tt), .second, .val (.int (3 : Int32)), .val (.int s0), .val (.int s1), .val (.int c2), t3, .val (.ref b23), .val (.ref b30), .val (.long ((own_f4 tt (86400 : Int64)) * (86400 : Int64) + s1.toInt64)), .second, .val (.long rr), .second, .val (.long (tt - rr)), .second, .unset, .unset] [(.int (2 : Int32)), (.int (3 : Int32))]))
                  refine Go.s (fun kz => XS.icmpNo X36.here hx rfl (hb hby at_260) rfl (XT.ii_lt_f (by decide)) kz) ?_
                  show Go p.tables e below P (T36.setTop (mkF m 263 #[.val (.int p0), .val (.int p1), .val (.int p2), .val (.int p3), .val (.long tt), .second, .val (.int (3 : Int32)), .val (.int s0), .val (.int s1), .val (.int c2), t3, .val (.ref b23), .val (.ref b30), .val (.long ((own_f4 tt (86400 : Int64)) * (86400 : Int64) + s1.toInt64)), .second, .val (.long rr), .second, .val (.long (tt - rr)), .second, .unset, .unset] []))
                  refine Go.s (fun kz => XT.lload X36.here hx rfl (hb hby at_263) rfl kz) ?_
                  refine Go.s (fun kz => XS.iload X36.here hx rfl (hb hby at_265) rfl kz) ?_
                  refine Go.s (fun kz => XT.i2l X36.here hx rfl (hb hby at_267) rfl kz) ?_
                  refine Go.s (fun kz => XT.lcmp X36.here hx rfl (hb hby at_268) rfl kz) ?_
                  show Go p.tables e below P (T36.setTop (mkF m 269 #[.val (.int p0), .val (.int p1), .val (.int p2), .val (.int p3), .val (.long tt), .second, .val (.int (3 : Int32)), .val (.int s0), .val (.int s1), .val (.int c2), t3, .val (.ref b23), .val (.ref b30), .val (.long ((own_f4 tt (86400 : Int64)) * (86400 : Int64) + s1.toInt64)), .second, .val (.long rr), .second, .val (.long (tt - rr)), .second, .unset, .unset] [(.int (XT.cmpL rr s1.toInt64))]))
                  refine Go.s (fun kz => XS.ifNo X36.here hx rfl (hb hby at_269) rfl (XT.ll_gt_f (by have z104 := hc104; rw [← Int32.toInt_inj] at z104; have z119 := hc119; rw [← Int32.toInt_inj] at z119; rw [Int64.lt_iff_toInt_lt, Jvm.Kit.i64_of_i32]; omega)) kz) ?_
                  show Go p.tables e below P (T36.setTop (mkF m 272 #[.val (.int p0), .val (.int p1), .val (.int p2), .val (.int p3), .val (.long tt), .second, .val (.int (3 : Int32)), .val (.int s0), .val (.int s1), .val (.int c2), t3, .val (.ref b23), .val (.ref b30), .val (.long ((own_f4 tt (86400 : Int64)) * (86400 : Int64) + s1.toInt64)), .second, .val (.long rr), .second, .val (.long (tt - rr)), .second, .unset, .unset] []))
                  refine Go.s (fun kz => XT.lload X36.here hx rfl (hb hby at_272) rfl kz) ?_
                  refine Go.s (fun kz => XS.iload X36.here hx rfl (hb hby at_274) rfl kz) ?_
                  refine Go.s (fun kz => XT.i2l X36.here hx rfl (hb hby at_276) rfl kz) ?_
                  refine Go.s (fun kz => XT.ladd X36.here hx rfl (hb hby at_277) rfl kz) ?_
                  refine Go.s (fun kz => XT.lstore X36.here hx rfl (hb hby at_278) rfl (l' := #[.val (.int p0), .val (.int p1), .val (.int p2), .val (.int p3), .val (.long tt), .second, .val (.int (3 : Int32)), .val (.int s0), .val (.int s1), .val (.int c2), t3, .val (.ref b23), .val (.ref b30), .val (.long ((own_f4 tt (86400 : Int64)) * (86400 : Int64) + s1.toInt64)), .second, .val (.long rr), .second, .val (.long (tt - rr)), .second, .val (.long ((tt - rr) + s1.toInt64)), .second]) rfl kz) ?_
                  refine Go.s (fun kz => XS.goto X36.here hx rfl (pc0 := 280) (pc' := 321) rfl (hb hby at_280) (by decide) (by decide) kz) ?_
                  show Go p.tables e below P (T36.setTop (mkF m 321 #[.val (.int p0), .val (.int p1), .val (.int p2), .val (.int p3), .val (.long tt), .second, .val (.int (3 : Int32)), .val (.int s0), .val (.int s1), .val (.int c2), t3, .val (.ref b23), .val (.ref b30), .val (.long ((own_f4 tt (86400 : Int64)) * (86400 : Int64) + s1.toInt64)), .second, .val (.long rr), .second, .val (.long (tt - rr)), .second, .val (.long ((tt - rr) + s1.toInt64)), .second] []))
                  refine Go.s (fun kz => XT.lload X36.here hx rfl (hb hby at_321) rfl kz) ?_
                  show Go p.tables e below P (T36.setTop (mkF m 323 #[.val (.int p0), .val (.int p1), .val (.int p2), .val (.int p3), .val (.long tt), .second, .val (.int (3 : Int32)), .val (.int s0), .val (.int s1), .val (.int c2), t3, .val (.ref b23), .val (.ref b30), .val (.long ((own_f4 tt (86400 : Int64)) * (86400 : Int64) + s1.toInt64)), .second, .val (.long rr), .second, .val (.long (tt - rr)), .second, .val (.long ((tt - rr) + s1.toInt64)), .second] [(.long ((own_f4 tt (86400 : Int64)) * (86400 : Int64) + s1.toInt64))]))
                  refine Go.s (fun kz => XT.lload X36.here hx rfl (hb hby at_323) rfl kz) ?_
                  refine Go.s (fun kz => XT.lcmp X36.here hx rfl (hb hby at_325) rfl kz) ?_
                  show Go p.tables e below P (T36.setTop (mkF m 326 #[.val (.int p0), .val (.int p1), .val (.int p2), .val (.int p3), .val (.long tt), .second, .val (.int (3 : Int32)), .val (.int s0), .val (.int s1), .val (.int c2), t3, .val (.ref b23), .val (.ref b30), .val (.long ((own_f4 tt (86400 : Int64)) * (86400 : Int64) + s1.toInt64)), .second, .val (.long rr), .second, .val (.long (tt - rr)), .second, .val (.long ((tt - rr) + s1.toInt64)), .second] [(.int (XT.cmpL ((own_f4 tt (86400 : Int64)) * (86400 : Int64) + s1.toInt64) ((tt - rr) + s1.toInt64)))]))
                  refine Go.s (fun kz => XS.ifNo X36.here hx rfl (hb hby at_326) rfl (XT.ll_ne_f (own_got tt rr s1 hrr)) kz) ?_
                  show Go p.tables e below P (T36.setTop (mkF m 329 #[.val (.int p0), .val (.int p1), .val (.int p2), .val (.int p3), .val (.long tt), .second, .val (.int (3 : Int32)), .val (.int s0), .val (.int s1), .val (.int c2), t3, .val (.ref b23), .val (.ref b30), .val (.long ((own_f4 tt (86400 : Int64)) * (86400 : Int64) + s1.toInt64)), .second, .val (.long rr), .second, .val (.long (tt - rr)), .second, .val (.long ((tt - rr) + s1.toInt64)), .second] []))
                  refine Go.s (fun kz => XS.iconst X36.here hx rfl (hb hby at_329) kz) ?_
                  refine Go.s (fun kz => XS.goto X36.here hx rfl (pc0 := 330) (pc' := 334) rfl (hb hby at_330) (by decide) (by decide) kz) ?_
                  show Go p.tables e below P (T36.setTop (mkF m 334 #[.val (.int p0), .val (.int p1), .val (.int p2), .val (.int p3), .val (.long tt), .second, .val (.int (3 : Int32)), .val (.int s0), .val (.int s1), .val (.int c2), t3, .val (.ref b23), .val (.ref b30), .val (.long ((own_f4 tt (86400 : Int64)) * (86400 : Int64) + s1.toInt64)), .second, .val (.long rr), .second, .val (.long (tt - rr)), .second, .val (.long ((tt - rr) + s1.toInt64)), .second] [(.int (1 : Int32))]))
                  exact Go.retZ X36 hx hlk hret (by decide) (hb hby at_334) (fun U hU hF => hP U _ _ ⟨rfl, N36⟩ ⟨hF.1, hF.2.1, hF.2.2.mono (by decide) (by decide)⟩)
                refine Go.s (fun kz => XT.lload X36.here hx rfl (hb hby at_215) rfl kz) ?_
                refine Go.s (fun kz => XT.lconst X36.here hx rfl (hb hby at_217) kz) ?_
                refine Go.s (fun kz => XT.lcmp X36.here hx rfl (hb hby at_218) rfl kz) ?_
                show Go p.tables e below P (T36.setTop (mkF m 219 #[.val (.int p0), .val (.int p1), .val (.int p2), .val (.int p3), .val (.long tt), .second, .val (.int (3 : Int32)), .val (.int s0), .val (.int s1), .val (.int c2), t3, .val (.ref b23), .val (.ref b30), .val (.long ((own_f4 tt (86400 : Int64)) * (86400 : Int64) + s1.toInt64)), .second, .val (.long (tt % (86400 : Int64))), .second, .unset, .unset, .unset, .unset] [(.int (XT.cmpL (tt % (86400 : Int64)) (0 : Int64)))]))
                by_cases hc219 : (tt % (86400 : Int64)) < (0 : Int64)
                · skip
                  refine Go.s (fun kz => XS.ifNo X36.here hx rfl (hb hby at_219) rfl (XT.ll_ge_f hc219) kz) ?_
                  show Go p.tables e below P (T36.setTop (mkF m 222 #[.val (.int p0), .val (.int p1), .val (.int p2), .val (.int p3), .val (.long tt), .second, .val (.int (3 : Int32)), .val (.int s0), .val (.int s1), .val (.int c2), t3, .val (.ref b23), .val (.ref b30), .val (.long ((own_f4 tt (86400 : Int64)) * (86400 : Int64) + s1.toInt64)), .second, .val (.long (tt % (86400 : Int64))), .second, .unset, .unset, .unset, .unset] []))
                  refine Go.s (fun kz => XT.lload X36.here hx rfl (hb hby at_222) rfl kz) ?_
                  refine Go.s (fun kz => X36.ldc2J hx hown (mvT hZ (hw _ (List.mem_of_getElem? (i := 38) rfl))) rfl (hb hby at_224) kz) ?_
                  refine Go.s (fun kz => XT.ladd X36.here hx rfl (hb hby at_227) rfl kz) ?_
                  refine Go.s (fun kz => XT.lstore X36.here hx rfl (hb hby at_228) rfl (l' := #[.val (.int p0), .val (.int p1), .val (.int p2), .val (.int p3), .val (.long tt), .second, .val (.int (3 : Int32)), .val (.int s0), .val (.int s1), .val (.int c2), t3, .val (.ref b23), .val (.ref b30), .val (.long ((own_f4 tt (86400 : Int64)) * (86400 : Int64) + s1.toInt64)), .second, .val (.long ((tt % (86400 : Int64)) + (86400 : Int64))), .second, .unset, .unset, .unset, .unset]) rfl kz) ?_
                  show Go p.tables e below P (T36.setTop (mkF m 230 #[.val (.int p0), .val (.int p1), .val (.int p2), .val (.int p3), .val (.long tt), .second, .val (.int (3 : Int32)), .val (.int s0), .val (.int s1), .val (.int c2), t3, .val (.ref b23), .val (.ref b30), .val (.long ((own_f4 tt (86400 : Int64)) * (86400 : Int64) + s1.toInt64)), .second, .val (.long ((tt % (86400 : Int64)) + (86400 : Int64))), .second, .unset, .unset, .unset, .unset] []))
                  exact J230 ((tt % (86400 : Int64)) + (86400 : Int64)) ((own_rr tt).2 hc219)
                · skip
                  refine Go.s (fun kz => XS.ifYes X36.here hx rfl (pc0 := 219) (pc' := 230) rfl (hb hby at_219) rfl (XT.ll_ge_t hc219) (by decide) (by decide) kz) ?_
                  show Go p.tables e below P (T36.setTop (mkF m 230 #[.val (.int p0), .val (.int p1), .val (.int p2), .val (.int p3), .val (.long tt), .second, .val (.int (3 : Int32)), .val (.int s0), .val (.int s1), .val (.int c2), t3, .val (.ref b23), .val (.ref b30), .val (.long ((own_f4 tt (86400 : Int64)) * (86400 : Int64) + s1.toInt64)), .second, .val (.long (tt % (86400 : Int64))), .second, .unset, .unset, .unset, .unset] []))
                  exact J230 (tt % (86400 : Int64)) ((own_rr tt).1 hc219)
              · skip
                refine Go.s (fun {t} => st36) ?_
                show Go p.tables e below P (T36.setTop (mkF m 205 #[.val (.int p0), .val (.int p1), .val (.int p2), .val (.int p3), .val (.long tt), .second, .val (.int (3 : Int32)), .val (.int s0), .val (.int s1), .val (.int c2), t3, .val (.ref b23), .val (.ref b30), .unset, .unset, .unset, .unset, .unset, .unset, .unset, .unset] [(.long ((own_f4 tt (86400 : Int64)) * (86400 : Int64) + s0.toInt64))]))
                have hk := own_key tt
                have c2' : (2 : Int32).toInt = 2 := rfl
                have m0 := k0
                rw [Int32.lt_iff_toInt_lt, hk] at m0
                have m1 := k1
                rw [Int32.lt_iff_toInt_lt, hk] at m1
                have m2 := k2
                rw [Int32.lt_iff_toInt_lt, hk] at m2
                have m3 := k3
                rw [Int32.lt_iff_toInt_lt, hk] at m3
                refine Go.s (fun kz => XT.lstore X36.here hx rfl (hb hby at_205) rfl (l' := #[.val (.int p0), .val (.int p1), .val (.int p2), .val (.int p3), .val (.long tt), .second, .val (.int (3 : Int32)), .val (.int s0), .val (.int s1), .val (.int c2), t3, .val (.ref b23), .val (.ref b30), .val (.long ((own_f4 tt (86400 : Int64)) * (86400 : Int64) + s0.toInt64)), .second, .unset, .unset, .unset, .unset, .unset, .unset]) rfl kz) ?_
                refine Go.s (fun kz => XT.lload X36.here hx rfl (hb hby at_207) rfl kz) ?_
                refine Go.s (fun kz => X36.ldc2J hx hown (mvT hZ (hw _ (List.mem_of_getElem? (i := 38) rfl))) rfl (hb hby at_209) kz) ?_
                show Go p.tables e below P (T36.setTop (mkF m 212 #[.val (.int p0), .val (.int p1), .val (.int p2), .val (.int p3), .val (.long tt), .second, .val (.int (3 : Int32)), .val (.int s0), .val (.int s1), .val (.int c2), t3, .val (.ref b23), .val (.ref b30), .val (.long ((own_f4 tt (86400 : Int64)) * (86400 : Int64) + s0.toInt64)), .second, .unset, .unset, .unset, .unset, .unset, .unset] [(.long (86400 : Int64)), (.long tt)]))
                refine Go.s (fun kz => lremM X36 hx rfl (hb hby at_212) rfl (by decide) kz) ?_
                refine Go.s (fun kz => XT.lstore X36.here hx rfl (hb hby at_213) rfl (l' := #[.val (.int p0), .val (.int p1), .val (.int p2), .val (.int p3), .val (.long tt), .second, .val (.int (3 : Int32)), .val (.int s0), .val (.int s1), .val (.int c2), t3, .val (.ref b23), .val (.ref b30), .val (.long ((own_f4 tt (86400 : Int64)) * (86400 : Int64) + s0.toInt64)), .second, .val (.long (tt % (86400 : Int64))), .second, .unset, .unset, .unset, .unset]) rfl kz) ?_
                show Go p.tables e below P (T36.setTop (mkF m 215 #[.val (.int p0), .val (.int p1), .val (.int p2), .val (.int p3), .val (.long tt), .second, .val (.int (3 : Int32)), .val (.int s0), .val (.int s1), .val (.int c2), t3, .val (.ref b23), .val (.ref b30), .val (.long ((own_f4 tt (86400 : Int64)) * (86400 : Int64) + s0.toInt64)), .second, .val (.long (tt % (86400 : Int64))), .second, .unset, .unset, .unset, .unset] []))
                have J230 : ∀ (rr : Int64) (hrr : rr.toInt = tt.toInt % 86400), Go p.tables e below P (T36.setTop (mkF m 230 #[.val (.int p0), .val (.int p1), .val (.int p2), .val (.int p3), .val (.long tt), .second, .val (.int (3 : Int32)), .val (.int s0), .val (.int s1), .val (.int c2), t3, .val (.ref b23), .val (.ref b30), .val (.long ((own_f4 tt (86400 : Int64)) * (86400 : Int64) + s0.toInt64)), .second, .val (.long rr), .second, .unset, .unset, .unset, .unset] [])) := by
                  intro rr hrr
                  refine Go.s (fun kz => XT.lload X36.here hx rfl (hb hby at_230) rfl kz) ?_
                  refine Go.s (fun kz => XT.lload X36.here hx rfl (hb hby at_232) rfl kz) ?_
                  refine Go.s (fun kz => XT.lsub X36.here hx rfl (hb hby at_234) rfl kz) ?_
                  refine Go.s (fun kz => XT.lstore X36.here hx rfl (hb hby at_235) rfl (l' := #[.val (.int p0), .val (.int p1), .val (.int p2), .val (.int p3), .val (.long tt), .second, .val (.int (3 : Int32)), .val (.int s0), .val (.int s1), .val (.int c2), t3, .val (.ref b23), .val (.ref b30), .val (.long ((own_f4 tt (86400 : Int64)) * (86400 : Int64) + s0.toInt64)), .second, .val (.long rr), .second, .val (.long (tt - rr)), .second, .unset, .unset]) rfl kz) ?_
                  refine Go.s (fun kz => XT.lload X36.here hx rfl (hb hby at_237) rfl kz) ?_
                  refine Go.s (fun kz => XS.iload X36.here hx rfl (hb hby at_239) rfl kz) ?_
                  show Go p.tables e below P (T36.setTop (mkF m 241 #[.val (.int p0), .val (.int p1), .val (.int p2), .val (.int p3), .val (.long tt), .second, .val (.int (3 : Int32)), .val (.int s0), .val (.int s1), .val (.int c2), t3, .val (.ref b23), .val (.ref b30), .val (.long ((own_f4 tt (86400 : Int64)) * (86400 : Int64) + s0.toInt64)), .second, .val (.long rr), .second, .val (.long (tt - rr)), .second, .unset, .unset] [(.int s0), (.long rr)]))
                  refine Go.s (fun kz => XT.i2l X36.here hx rfl (hb hby at_241) rfl kz) ?_
                  refine Go.s (fun kz => XT.lcmp X36.here hx rfl (hb hby at_242) rfl kz) ?_
                  show Go p.tables e below P (T36.setTop (mkF m 243 #[.val (.int p0), .val (.int p1), .val (.int p2), .val (.int p3), .val (.long tt), .second, .val (.int (3 : Int32)), .val (.int s0), .val (.int s1), .val (.int c2), t3, .val (.ref b23), .val (.ref b30), .val (.long ((own_f4 tt (86400 : Int64)) * (86400 : Int64) + s0.toInt64)), .second, .val (.long rr), .second, .val (.long (tt - rr)), .second, .unset, .unset] [(.int (XT.cmpL rr s0.toInt64))]))
                  refine Go.s (fun kz => XS.ifNo X36.here hx rfl (hb hby at_243) rfl (XT.ll_gt_f (by have z104 := hc104; rw [← Int32.toInt_inj] at z104; have z119 := hc119; rw [← Int32.toInt_inj] at z119; rw [Int64.lt_iff_toInt_lt, Jvm.Kit.i64_of_i32]; omega)) kz) ?_
                  show Go p.tables e below P (T36.setTop (mkF m 246 #[.val (.int p0), .val (.int p1), .val (.int p2), .val (.int p3), .val (.long tt), .second, .val (.int (3 : Int32)), .val (.int s0), .val (.int s1), .val (.int c2), t3, .val (.ref b23), .val (.ref b30), .val (.long ((own_f4 tt (86400 : Int64)) * (86400 : Int64) + s0.toInt64)), .second, .val (.long rr), .second, .val (.long (tt - rr)), .second, .unset, .unset] []))
                  refine Go.s (fun kz => XT.lload X36.here hx rfl (hb hby at_246) rfl kz) ?_
                  refine Go.s (fun kz => XS.iload X36.here hx rfl (hb hby at_248) rfl kz) ?_
                  refine Go.s (fun kz => XT.i2l X36.here hx rfl (hb hby at_250) rfl kz) ?_
                  refine Go.s (fun kz => XT.ladd X36.here hx rfl (hb hby at_251) rfl kz) ?_
                  refine Go.s (fun kz => XT.lstore X36.here hx rfl (hb hby at_252) rfl (l' := #[.val (.int p0), .val (.int p1), .val (.int p2), .val (.int p3), .val (.long tt), .second, .val (.int (3 : Int32)), .val (.int s0), .val (.int s1), .val (.int c2), t3, .val (.ref b23), .val (.ref b30), .val (.long ((own_f4 tt (86400 : Int64)) * (86400 : Int64) + s0.toInt64)), .second, .val (.long rr), .second, .val (.long (tt - rr)), .second, .val (.long ((tt - rr) + s0.toInt64)), .second]) rfl kz) ?_
                  refine Go.s (fun kz => XS.goto X36.here hx rfl (pc0 := 254) (pc' := 321) rfl (hb hby at_254) (by decide) (by decide) kz) ?_
                  show Go p.tables e below P (T36.setTop (mkF m 321 #[.val (.int p0), .val (.int p1), .val (.int p2), .val (.int p3), .val (.long tt), .second, .val (.int (3 : Int32)), .val (.int s0), .val (.int s1), .val (.int c2), t3, .val (.ref b23), .val (.ref b30), .val (.long ((own_f4 tt (86400 : Int64)) * (86400 : Int64) + s0.toInt64)), .second, .val (.long rr), .second, .val (.long (tt - rr)), .second, .val (.long ((tt - rr) + s0.toInt64)), .second] []))
                  refine Go.s (fun kz => XT.lload X36.here hx rfl (hb hby at_321) rfl kz) ?_
                  show Go p.tables e below P (T36.setTop (mkF m 323 #[.val (.int p0), .val (.int p1), .val (.int p2), .val (.int p3), .val (.long tt), .second, .val (.int (3 : Int32)), .val (.int s0), .val (.int s1), .val (.int c2), t3, .val (.ref b23), .val (.ref b30), .val (.long ((own_f4 tt (86400 : Int64)) * (86400 : Int64) + s0.toInt64)), .second, .val (.long rr), .second, .val (.long (tt - rr)), .second, .val (.long ((tt - rr) + s0.toInt64)), .second] [(.long ((own_f4 tt (86400 : Int64)) * (86400 : Int64) + s0.toInt64))]))
                  refine Go.s (fun kz => XT.lload X36.here hx rfl (hb hby at_323) rfl kz) ?_
                  refine Go.s (fun kz => XT.lcmp X36.here hx rfl (hb hby at_325) rfl kz) ?_
                  show Go p.tables e below P (T36.setTop (mkF m 326 #[.val (.int p0), .val (.int p1), .val (.int p2), .val (.int p3), .val (.long tt), .second, .val (.int (3 : Int32)), .val (.int s0), .val (.int s1), .val (.int c2), t3, .val (.ref b23), .val (.ref b30), .val (.long ((own_f4 tt (86400 : Int64)) * (86400 : Int64) + s0.toInt64)), .second, .val (.long rr), .second, .val (.long (tt - rr)), .second, .val (.long ((tt - rr) + s0.toInt64)), .second] [(.int (XT.cmpL ((own_f4 tt (86400 : Int64)) * (86400 : Int64) + s0.toInt64) ((tt - rr) + s0.toInt64)))]))
                  refine Go.s (fun kz => XS.ifNo X36.here hx rfl (hb hby at_326) rfl (XT.ll_ne_f (own_got tt rr s0 hrr)) kz) ?_
                  show Go p.tables e below P (T36.setTop (mkF m 329 #[.val (.int p0), .val (.int p1), .val (.int p2), .val (.int p3), .val (.long tt), .second, .val (.int (3 : Int32)), .val (.int s0), .val (.int s1), .val (.int c2), t3, .val (.ref b23), .val (.ref b30), .val (.long ((own_f4 tt (86400 : Int64)) * (86400 : Int64) + s0.toInt64)), .second, .val (.long rr), .second, .val (.long (tt - rr)), .second, .val (.long ((tt - rr) + s0.toInt64)), .second] []))
                  refine Go.s (fun kz => XS.iconst X36.here hx rfl (hb hby at_329) kz) ?_
                  refine Go.s (fun kz => XS.goto X36.here hx rfl (pc0 := 330) (pc' := 334) rfl (hb hby at_330) (by decide) (by decide) kz) ?_
                  show Go p.tables e below P (T36.setTop (mkF m 334 #[.val (.int p0), .val (.int p1), .val (.int p2), .val (.int p3), .val (.long tt), .second, .val (.int (3 : Int32)), .val (.int s0), .val (.int s1), .val (.int c2), t3, .val (.ref b23), .val (.ref b30), .val (.long ((own_f4 tt (86400 : Int64)) * (86400 : Int64) + s0.toInt64)), .second, .val (.long rr), .second, .val (.long (tt - rr)), .second, .val (.long ((tt - rr) + s0.toInt64)), .second] [(.int (1 : Int32))]))
                  exact Go.retZ X36 hx hlk hret (by decide) (hb hby at_334) (fun U hU hF => hP U _ _ ⟨rfl, N36⟩ ⟨hF.1, hF.2.1, hF.2.2.mono (by decide) (by decide)⟩)
                refine Go.s (fun kz => XT.lload X36.here hx rfl (hb hby at_215) rfl kz) ?_
                refine Go.s (fun kz => XT.lconst X36.here hx rfl (hb hby at_217) kz) ?_
                refine Go.s (fun kz => XT.lcmp X36.here hx rfl (hb hby at_218) rfl kz) ?_
                show Go p.tables e below P (T36.setTop (mkF m 219 #[.val (.int p0), .val (.int p1), .val (.int p2), .val (.int p3), .val (.long tt), .second, .val (.int (3 : Int32)), .val (.int s0), .val (.int s1), .val (.int c2), t3, .val (.ref b23), .val (.ref b30), .val (.long ((own_f4 tt (86400 : Int64)) * (86400 : Int64) + s0.toInt64)), .second, .val (.long (tt % (86400 : Int64))), .second, .unset, .unset, .unset, .unset] [(.int (XT.cmpL (tt % (86400 : Int64)) (0 : Int64)))]))
                by_cases hc219 : (tt % (86400 : Int64)) < (0 : Int64)
                · skip
                  refine Go.s (fun kz => XS.ifNo X36.here hx rfl (hb hby at_219) rfl (XT.ll_ge_f hc219) kz) ?_
                  show Go p.tables e below P (T36.setTop (mkF m 222 #[.val (.int p0), .val (.int p1), .val (.int p2), .val (.int p3), .val (.long tt), .second, .val (.int (3 : Int32)), .val (.int s0), .val (.int s1), .val (.int c2), t3, .val (.ref b23), .val (.ref b30), .val (.long ((own_f4 tt (86400 : Int64)) * (86400 : Int64) + s0.toInt64)), .second, .val (.long (tt % (86400 : Int64))), .second, .unset, .unset, .unset, .unset] []))
                  refine Go.s (fun kz => XT.lload X36.here hx rfl (hb hby at_222) rfl kz) ?_
                  refine Go.s (fun kz => X36.ldc2J hx hown (mvT hZ (hw _ (List.mem_of_getElem? (i := 38) rfl))) rfl (hb hby at_224) kz) ?_
                  refine Go.s (fun kz => XT.ladd X36.here hx rfl (hb hby at_227) rfl kz) ?_
                  refine Go.s (fun kz => XT.lstore X36.here hx rfl (hb hby at_228) rfl (l' := #[.val (.int p0), .val (.int p1), .val (.int p2), .val (.int p3), .val (.long tt), .second, .val (.int (3 : Int32)), .val (.int s0), .val (.int s1), .val (.int c2), t3, .val (.ref b23), .val (.ref b30), .val (.long ((own_f4 tt (86400 : Int64)) * (86400 : Int64) + s0.toInt64)), .second, .val (.long ((tt % (86400 : Int64)) + (86400 : Int64))), .second, .unset, .unset, .unset, .unset]) rfl kz) ?_
                  show Go p.tables e below P (T36.setTop (mkF m 230 #[.val (.int p0), .val (.int p1), .val (.int p2), .val (.int p3), .val (.long tt), .second, .val (.int (3 : Int32)), .val (.int s0), .val (.int s1), .val (.int c2), t3, .val (.ref b23), .val (.ref b30), .val (.long ((own_f4 tt (86400 : Int64)) * (86400 : Int64) + s0.toInt64)), .second, .val (.long ((tt % (86400 : Int64)) + (86400 : Int64))), .second, .unset, .unset, .unset, .unset] []))
                  exact J230 ((tt % (86400 : Int64)) + (86400 : Int64)) ((own_rr tt).2 hc219)
                · skip
                  refine Go.s (fun kz => XS.ifYes X36.here hx rfl (pc0 := 219) (pc' := 230) rfl (hb hby at_219) rfl (XT.ll_ge_t hc219) (by decide) (by decide) kz) ?_
                  show Go p.tables e below P (T36.setTop (mkF m 230 #[.val (.int p0), .val (.int p1), .val (.int p2), .val (.int p3), .val (.long tt), .second, .val (.int (3 : Int32)), .val (.int s0), .val (.int s1), .val (.int c2), t3, .val (.ref b23), .val (.ref b30), .val (.long ((own_f4 tt (86400 : Int64)) * (86400 : Int64) + s0.toInt64)), .second, .val (.long (tt % (86400 : Int64))), .second, .unset, .unset, .unset, .unset] []))
                  exact J230 (tt % (86400 : Int64)) ((own_rr tt).1 hc219)
              · skip
                refine Go.s (fun {t} => st36) ?_
                show Go p.tables e below P (T36.setTop (mkF m 205 #[.val (.int p0), .val (.int p1), .val (.int p2), .val (.int p3), .val (.long tt), .second, .val (.int (3 : Int32)), .val (.int s0), .val (.int s1), .val (.int c2), t3, .val (.ref b23), .val (.ref b30), .unset, .unset, .unset, .unset, .unset, .unset, .unset, .unset] [(.long ((own_f4 tt (86400 : Int64)) * (86400 : Int64) + s0.toInt64))]))
                have hk := own_key tt
                have c2' : (2 : Int32).toInt = 2 := rfl
                have m0 := k0
                rw [Int32.lt_iff_toInt_lt, hk] at m0
                have m1 := k1
                rw [Int32.lt_iff_toInt_lt, hk] at m1
                have m2 := k2
                rw [Int32.lt_iff_toInt_lt, hk] at m2
                have m3 := k3
                rw [Int32.lt_iff_toInt_lt, hk] at m3
                refine Go.s (fun kz => XT.lstore X36.here hx rfl (hb hby at_205) rfl (l' := #[.val (.int p0), .val (.int p1), .val (.int p2), .val (.int p3), .val (.long tt), .second, .val (.int (3 : Int32)), .val (.int s0), .val (.int s1), .val (.int c2), t3, .val (.ref b23), .val (.ref b30), .val (.long ((own_f4 tt (86400 : Int64)) * (86400 : Int64) + s0.toInt64)), .second, .unset, .unset, .unset, .unset, .unset, .unset]) rfl kz) ?_
                refine Go.s (fun kz => XT.lload X36.here hx rfl (hb hby at_207) rfl kz) ?_
                refine Go.s (fun kz => X36.ldc2J hx hown (mvT hZ (hw _ (List.mem_of_getElem? (i := 38) rfl))) rfl (hb hby at_209) kz) ?_
                show Go p.tables e below P (T36.setTop (mkF m 212 #[.val (.int p0), .val (.int p1), .val (.int p2), .val (.int p3), .val (.long tt), .second, .val (.int (3 : Int32)), .val (.int s0), .val (.int s1), .val (.int c2), t3, .val (.ref b23), .val (.ref b30), .val (.long ((own_f4 tt (86400 : Int64)) * (86400 : Int64) + s0.toInt64)), .second, .unset, .unset, .unset, .unset, .unset, .unset] [(.long (86400 : Int64)), (.long tt)]))
                refine Go.s (fun kz => lremM X36 hx rfl (hb hby at_212) rfl (by decide) kz) ?_
                refine Go.s (fun kz => XT.lstore X36.here hx rfl (hb hby at_213) rfl (l' := #[.val (.int p0), .val (.int p1), .val (.int p2), .val (.int p3), .val (.long tt), .second, .val (.int (3 : Int32)), .val (.int s0), .val (.int s1), .val (.int c2), t3, .val (.ref b23), .val (.ref b30), .val (.long ((own_f4 tt (86400 : Int64)) * (86400 : Int64) + s0.toInt64)), .second, .val (.long (tt % (86400 : Int64))), .second, .unset, .unset, .unset, .unset]) rfl kz) ?_
                show Go p.tables e below P (T36.setTop (mkF m 215 #[.val (.int p0), .val (.int p1), .val (.int p2), .val (.int p3), .val (.long tt), .second, .val (.int (3 : Int32)), .val (.int s0), .val (.int s1), .val (.int c2), t3, .val (.ref b23), .val (.ref b30), .val (.long ((own_f4 tt (86400 : Int64)) * (86400 : Int64) + s0.toInt64)), .second, .val (.long (tt % (86400 : Int64))), .second, .unset, .unset, .unset, .unset] []))
                have J230 : ∀ (rr : Int64) (hrr : rr.toInt = tt.toInt % 86400), Go p.tables e below P (T36.setTop (mkF m 230 #[.val (.int p0), .val (.int p1), .val (.int p2), .val (.int p3), .val (.long tt), .second, .val (.int (3 : Int32)), .val (.int s0), .val (.int s1), .val (.int c2), t3, .val (.ref b23), .val (.ref b30), .val (.long ((own_f4 tt (86400 : Int64)) * (86400 : Int64) + s0.toInt64)), .second, .val (.long rr), .second, .unset, .unset, .unset, .unset] [])) := by
                  intro rr hrr
                  refine Go.s (fun kz => XT.lload X36.here hx rfl (hb hby at_230) rfl kz) ?_
                  refine Go.s (fun kz => XT.lload X36.here hx rfl (hb hby at_232) rfl kz) ?_
                  refine Go.s (fun kz => XT.lsub X36.here hx rfl (hb hby at_234) rfl kz) ?_
                  refine Go.s (fun kz => XT.lstore X36.here hx rfl (hb hby at_235) rfl (l' := #[.val (.int p0), .val (.int p1), .val (.int p2), .val (.int p3), .val (.long tt), .second, .val (.int (3 : Int32)), .val (.int s0), .val (.int s1), .val (.int c2), t3, .val (.ref b23), .val (.ref b30), .val (.long ((own_f4 tt (86400 : Int64)) * (86400 : Int64) + s0.toInt64)), .second, .val (.long rr), .second, .val (.long (tt - rr)), .second, .unset, .unset]) rfl kz) ?_
                  refine Go.s (fun kz => XT.lload X36.here hx rfl (hb hby at_237) rfl kz) ?_
                  refine Go.s (fun kz => XS.iload X36.here hx rfl (hb hby at_239) rfl kz) ?_
                  show Go p.tables e below P (T36.setTop (mkF m 241 #[.val (.int p0), .val (.int p1), .val (.int p2), .val (.int p3), .val (.long tt), .second, .val (.int (3 : Int32)), .val (.int s0), .val (.int s1), .val (.int c2), t3, .val (.ref b23), .val (.ref b30), .val (.long ((own_f4 tt (86400 : Int64)) * (86400 : Int64) + s0.toInt64)), .second, .val (.long rr), .second, .val (.long (tt - rr)), .second, .unset, .unset] [(.int s0), (.long rr)]))
                  refine Go.s (fun kz => XT.i2l X36.here hx rfl (hb hby at_241) rfl kz) ?_
                  refine Go.s (fun kz => XT.lcmp X36.here hx rfl (hb hby at_242) rfl kz) ?_
                  show Go p.tables e below P (T36.setTop (mkF m 243 #[.val (.int p0), .val (.int p1), .val (.int p2), .val (.int p3), .val (.long tt), .second, .val (.int (3 : Int32)), .val (.int s0), .val (.int s1), .val (.int c2), t3, .val (.ref b23), .val (.ref b30), .val (.long ((own_f4 tt (86400 : Int64)) * (86400 : Int64) + s0.toInt64)), .second, .val (.long rr), .second, .val (.long (tt - rr)), .second, .unset, .unset] [(.int (XT.cmpL rr s0.toInt64))]))
                  refine Go.s (fun kz => XS.ifNo X36.here hx rfl (hb hby at_243) rfl (XT.ll_gt_f (by have z104 := hc104; rw [← Int32.toInt_inj] at z104; have z119 := hc119; rw [← Int32.toInt_inj] at z119; rw [Int64.lt_iff_toInt_lt, Jvm.Kit.i64_of_i32]; omega)) kz) ?_
                  show Go p.tables e below P (T36.setTop (mkF m 246 #[.val (.int p0), .val (.int p1), .val (.int p2), .val (.int p3), .val (.long tt), .second, .val (.int (3 : Int32)), .val (.int s0), .val (.int s1), .val (.int c2), t3, .val (.ref b23), .val (.ref b30), .val (.long ((own_f4 tt (86400 : Int64)) * (86400 : Int64) + s0.toInt64)), .second, .val (.long rr), .second, .val (.long (tt - rr)), .second, .unset, .unset] []))
                  refine Go.s (fun kz => XT.lload X36.here hx rfl (hb hby at_246) rfl kz) ?_
                  refine Go.s (fun kz => XS.iload X36.here hx rfl (hb hby at_248) rfl kz) ?_
                  refine Go.s (fun kz => XT.i2l X36.here hx rfl (hb hby at_250) rfl kz) ?_
                  refine Go.s (fun kz => XT.ladd X36.here hx rfl (hb hby at_251) rfl kz) ?_
                  refine Go.s (fun kz => XT.lstore X36.here hx rfl (hb hby at_252) rfl (l' := #[.val (.int p0), .val (.int p1), .val (.int p2), .val (.int p3), .val (.long tt), .second, .val (.int (3 : Int32)), .val (.int s0), .val (.int s1), .val (.int c2), t3, .val (.ref b23), .val (.ref b30), .val (.long ((own_f4 tt (86400 : Int64)) * (86400 : Int64) + s0.toInt64)), .second, .val (.long rr), .second, .val (.long (tt - rr)), .second, .val (.long ((tt - rr) + s0.toInt64)), .second]) rfl kz) ?_
                  refine Go.s (fun kz => XS.goto X36.here hx rfl (pc0 := 254) (pc' := 321) rfl (hb hby at_254) (by decide) (by decide) kz) ?_
                  show Go p.tables e below P (T36.setTop (mkF m 321 #[.val (.int p0), .val (.int p1), .val (.int p2), .val (.int p3), .val (.long tt), .second, .val (.int (3 : Int32)), .val (.int s0), .val (.int s1), .val (.int c2), t3, .val (.ref b23), .val (.ref b30), .val (.long ((own_f4 tt (86400 : Int64)) * (86400 : Int64) + s0.toInt64)), .second, .val (.long rr), .second, .val (.long (tt - rr)), .second, .val (.long ((tt - rr) + s0.toInt64)), .second] []))
                  refine Go.s (fun kz => XT.lload X36.here hx rfl (hb hby at_321) rfl kz) ?_
                  show Go p.tables e below P (T36.setTop (mkF m 323 #[.val (.int p0), .val (.int p1), .val (.int p2), .val (.int p3), .val (.long tt), .second, .val (.int (3 : Int32)), .val (.int s0), .val (.int s1), .val (.int c2), t3, .val (.ref b23), .val (.ref b30), .val (.long ((own_f4 tt (86400 : Int64)) * (86400 : Int64) + s0.toInt64)), .second, .val (.long rr), .second, .val (.long (tt - rr)), .second, .val (.long ((tt - rr) + s0.toInt64)), .second] [(.long ((own_f4 tt (86400 : Int64)) * (86400 : Int64) + s0.toInt64))]))
                  refine Go.s (fun kz => XT.lload X36.here hx rfl (hb hby at_323) rfl kz) ?_
                  refine Go.s (fun kz => XT.lcmp X36.here hx rfl (hb hby at_325) rfl kz) ?_
                  show Go p.tables e below P (T36.setTop (mkF m 326 #[.val (.int p0), .val (.int p1), .val (.int p2), .val (.int p3), .val (.long tt), .second, .val (.int (3 : Int32)), .val (.int s0), .val (.int s1), .val (.int c2), t3, .val (.ref b23), .val (.ref b30), .val (.long ((own_f4 tt (86400 : Int64)) * (86400 : Int64) + s0.toInt64)), .second, .val (.long rr), .second, .val (.long (tt - rr)), .second, .val (.long ((tt - rr) + s0.toInt64)), .second] [(.int (XT.cmpL ((own_f4 tt (86400 : Int64)) * (86400 : Int64) + s0.toInt64) ((tt - rr) + s0.toInt64)))]))
                  refine Go.s (fun kz => XS.ifNo X36.here hx rfl (hb hby at_326) rfl (XT.ll_ne_f (own_got tt rr s0 hrr)) kz) ?_
                  show Go p.tables e below P (T36.setTop (mkF m 329 #[.val (.int p0), .val (.int p1), .val (.int p2), .val (.int p3), .val (.long tt), .second, .val (.int (3 : Int32)), .val (.int s0), .val (.int s1), .val (.int c2), t3, .val (.ref b23), .val (.ref b30), .val (.long ((own_f4 tt (86400 : Int64)) * (86400 : Int64) + s0.toInt64)), .second, .val (.long rr), .second, .val (.long (tt - rr)), .second, .val (.long ((tt - rr) + s0.toInt64)), .second] []))
                  refine Go.s (fun kz => XS.iconst X36.here hx rfl (hb hby at_329) kz) ?_
                  refine Go.s (fun kz => XS.goto X36.here hx rfl (pc0 := 330) (pc' := 334) rfl (hb hby at_330) (by decide) (by decide) kz) ?_
                  show Go p.tables e below P (T36.setTop (mkF m 334 #[.val (.int p0), .val (.int p1), .val (.int p2), .val (.int p3), .val (.long tt), .second, .val (.int (3 : Int32)), .val (.int s0), .val (.int s1), .val (.int c2), t3, .val (.ref b23), .val (.ref b30), .val (.long ((own_f4 tt (86400 : Int64)) * (86400 : Int64) + s0.toInt64)), .second, .val (.long rr), .second, .val (.long (tt - rr)), .second, .val (.long ((tt - rr) + s0.toInt64)), .second] [(.int (1 : Int32))]))
                  exact Go.retZ X36 hx hlk hret (by decide) (hb hby at_334) (fun U hU hF => hP U _ _ ⟨rfl, N36⟩ ⟨hF.1, hF.2.1, hF.2.2.mono (by decide) (by decide)⟩)
                refine Go.s (fun kz => XT.lload X36.here hx rfl (hb hby at_215) rfl kz) ?_
                refine Go.s (fun kz => XT.lconst X36.here hx rfl (hb hby at_217) kz) ?_
                refine Go.s (fun kz => XT.lcmp X36.here hx rfl (hb hby at_218) rfl kz) ?_
                show Go p.tables e below P (T36.setTop (mkF m 219 #[.val (.int p0), .val (.int p1), .val (.int p2), .val (.int p3), .val (.long tt), .second, .val (.int (3 : Int32)), .val (.int s0), .val (.int s1), .val (.int c2), t3, .val (.ref b23), .val (.ref b30), .val (.long ((own_f4 tt (86400 : Int64)) * (86400 : Int64) + s0.toInt64)), .second, .val (.long (tt % (86400 : Int64))), .second, .unset, .unset, .unset, .unset] [(.int (XT.cmpL (tt % (86400 : Int64)) (0 : Int64)))]))
                by_cases hc219 : (tt % (86400 : Int64)) < (0 : Int64)
                · skip
                  refine Go.s (fun kz => XS.ifNo X36.here hx rfl (hb hby at_219) rfl (XT.ll_ge_f hc219) kz) ?_
                  show Go p.tables e below P (T36.setTop (mkF m 222 #[.val (.int p0), .val (.int p1), .val (.int p2), .val (.int p3), .val (.long tt), .second, .val (.int (3 : Int32)), .val (.int s0), .val (.int s1), .val (.int c2), t3, .val (.ref b23), .val (.ref b30), .val (.long ((own_f4 tt (86400 : Int64)) * (86400 : Int64) + s0.toInt64)), .second, .val (.long (tt % (86400 : Int64))), .second, .unset, .unset, .unset, .unset] []))
                  refine Go.s (fun kz => XT.lload X36.here hx rfl (hb hby at_222) rfl kz) ?_
                  refine Go.s (fun kz => X36.ldc2J hx hown (mvT hZ (hw _ (List.mem_of_getElem? (i := 38) rfl))) rfl (hb hby at_224) kz) ?_
                  refine Go.s (fun kz => XT.ladd X36.here hx rfl (hb hby at_227) rfl kz) ?_
                  refine Go.s (fun kz => XT.lstore X36.here hx rfl (hb hby at_228) rfl (l' := #[.val (.int p0), .val (.int p1), .val (.int p2), .val (.int p3), .val (.long tt), .second, .val (.int (3 : Int32)), .val (.int s0), .val (.int s1), .val (.int c2), t3, .val (.ref b23), .val (.ref b30), .val (.long ((own_f4 tt (86400 : Int64)) * (86400 : Int64) + s0.toInt64)), .second, .val (.long ((tt % (86400 : Int64)) + (86400 : Int64))), .second, .unset, .unset, .unset, .unset]) rfl kz) ?_
                  show Go p.tables e below P (T36.setTop (mkF m 230 #[.val (.int p0), .val (.int p1), .val (.int p2), .val (.int p3), .val (.long tt), .second, .val (.int (3 : Int32)), .val (.int s0), .val (.int s1), .val (.int c2), t3, .val (.ref b23), .val (.ref b30), .val (.long ((own_f4 tt (86400 : Int64)) * (86400 : Int64) + s0.toInt64)), .second, .val (.long ((tt % (86400 : Int64)) + (86400 : Int64))), .second, .unset, .unset, .unset, .unset] []))
                  exact J230 ((tt % (86400 : Int64)) + (86400 : Int64)) ((own_rr tt).2 hc219)
                · skip
                  refine Go.s (fun kz => XS.ifYes X36.here hx rfl (pc0 := 219) (pc' := 230) rfl (hb hby at_219) rfl (XT.ll_ge_t hc219) (by decide) (by decide) kz) ?_
                  show Go p.tables e below P (T36.setTop (mkF m 230 #[.val (.int p0), .val (.int p1), .val (.int p2), .val (.int p3), .val (.long tt), .second, .val (.int (3 : Int32)), .val (.int s0), .val (.int s1), .val (.int c2), t3, .val (.ref b23), .val (.ref b30), .val (.long ((own_f4 tt (86400 : Int64)) * (86400 : Int64) + s0.toInt64)), .second, .val (.long (tt % (86400 : Int64))), .second, .unset, .unset, .unset, .unset] []))
                  exact J230 (tt % (86400 : Int64)) ((own_rr tt).1 hc219)
              · skip
                refine Go.s (fun {t} => st36) ?_
                show Go p.tables e below P (T36.setTop (mkF m 205 #[.val (.int p0), .val (.int p1), .val (.int p2), .val (.int p3), .val (.long tt), .second, .val (.int (3 : Int32)), .val (.int s0), .val (.int s1), .val (.int c2), t3, .val (.ref b23), .val (.ref b30), .unset, .unset, .unset, .unset, .unset, .unset, .unset, .unset] [(.long ((own_f4 tt (86400 : Int64)) * (86400 : Int64) + s1.toInt64))]))
                have hk := own_key tt
                have c2' : (2 : Int32).toInt = 2 := rfl
                have m0 := k0
                rw [Int32.lt_iff_toInt_lt, hk] at m0
                have m1 := k1
                rw [Int32.lt_iff_toInt_lt, hk] at m1
                refine Go.s (fun kz => XT.lstore X36.here hx rfl (hb hby at_205) rfl (l' := #[.val (.int p0), .val (.int p1), .val (.int p2), .val (.int p3), .val (.long tt), .second, .val (.int (3 : Int32)), .val (.int s0), .val (.int s1), .val (.int c2), t3, .val (.ref b23), .val (.ref b30), .val (.long ((own_f4 tt (86400 : Int64)) * (86400 : Int64) + s1.toInt64)), .second, .unset, .unset, .unset, .unset, .unset, .unset]) rfl kz) ?_
                refine Go.s (fun kz => XT.lload X36.here hx rfl (hb hby at_207) rfl kz) ?_
                refine Go.s (fun kz => X36.ldc2J hx hown (mvT hZ (hw _ (List.mem_of_getElem? (i := 38) rfl))) rfl (hb hby at_209) kz) ?_
                show Go p.tables e below P (T36.setTop (mkF m 212 #[.val (.int p0), .val (.int p1), .val (.int p2), .val (.int p3), .val (.long tt), .second, .val (.int (3 : Int32)), .val (.int s0), .val (.int s1), .val (.int c2), t3, .val (.ref b23), .val (.ref b30), .val (.long ((own_f4 tt (86400 : Int64)) * (86400 : Int64) + s1.toInt64)), .second, .unset, .unset, .unset, .unset, .unset, .unset] [(.long (86400 : Int64)), (.long tt)]))
                refine Go.s (fun kz => lremM X36 hx rfl (hb hby at_212) rfl (by decide) kz) ?_
                refine Go.s (fun kz => XT.lstore X36.here hx rfl (hb hby at_213) rfl (l' := #[.val (.int p0), .val (.int p1), .val (.int p2), .val (.int p3), .val (.long tt), .second, .val (.int (3 : Int32)), .val (.int s0), .val (.int s1), .val (.int c2), t3, .val (.ref b23), .val (.ref b30), .val (.long ((own_f4 tt (86400 : Int64)) * (86400 : Int64) + s1.toInt64)), .second, .val (.long (tt % (86400 : Int64))), .second, .unset, .unset, .unset, .unset]) rfl kz) ?_
                show Go p.tables e below P (T36.setTop (mkF m 215 #[.val (.int p0), .val (.int p1), .val (.int p2), .val (.int p3), .val (.long tt), .second, .val (.int (3 : Int32)), .val (.int s0), .val (.int s1), .val (.int c2), t3, .val (.ref b23), .val (.ref b30), .val (.long ((own_f4 tt (86400 : Int64)) * (86400 : Int64) + s1.toInt64)), .second, .val (.long (tt % (86400 : Int64))), .second, .unset, .unset, .unset, .unset] []))
                have J230 : ∀ (rr : Int64) (hrr : rr.toInt = tt.toInt % 86400), Go p.tables e below P (T36.setTop (mkF m 230 #[.val (.int p0), .val (.int p1), .val (.int p2), .val (.int p3), .val (.long tt), .second, .val (.int (3 : Int32)), .val (.int s0), .val (.int s1), .val (.int c2), t3, .val (.ref b23), .val (.ref b30), .val (.long ((own_f4 tt (86400 : Int64)) * (86400 : Int64) + s1.toInt64)), .second, .val (.long rr), .second, .unset, .unset, .unset, .unset] [])) := by
                  intro rr hrr
                  refine Go.s (fun kz => XT.lload X36.here hx rfl (hb hby at_230) rfl kz) ?_
                  refine Go.s (fun kz => XT.lload X36.here hx rfl (hb hby at_232) rfl kz) ?_
                  refine Go.s (fun kz => XT.lsub X36.here hx rfl (hb hby at_234) rfl kz) ?_
                  refine Go.s (fun kz => XT.lstore X36.here hx rfl (hb hby at_235) rfl (l' := #[.val (.int p0), .val (.int p1), .val (.int p2), .val (.int p3), .val (.long tt), .second, .val (.int (3 : Int32)), .val (.int s0), .val (.int s1), .val (.int c2), t3, .val (.ref b23), .val (.ref b30), .val (.long ((own_f4 tt (86400 : Int64)) * (86400 : Int64) + s1.toInt64)), .second, .val (.long rr), .second, .val (.long (tt - rr)), .second, .unset, .unset]) rfl kz) ?_
                  refine Go.s (fun kz => XT.lload X36.here hx rfl (hb hby at_237) rfl kz) ?_
                  refine Go.s (fun kz => XS.iload X36.here hx rfl (hb hby at_239) rfl kz) ?_
                  show Go p.tables e below P (T36.setTop (mkF m 241 #[.val (.int p0), .val (.int p1), .val (.int p2), .val (.int p3), .val (.long tt), .second, .val (.int (3 : Int32)), .val (.int s0), .val (.int s1), .val (.int c2), t3, .val (.ref b23), .val (.ref b30), .val (.long ((own_f4 tt (86400 : Int64)) * (86400 : Int64) + s1.toInt64)), .second, .val (.long rr), .second, .val (.long (tt - rr)), .second, .unset, .unset] [(.int s0), (.long rr)]))
                  refine Go.s (fun kz => XT.i2l X36.here hx rfl (hb hby at_241) rfl kz) ?_
                  refine Go.s (fun kz => XT.lcmp X36.here hx rfl (hb hby at_242) rfl kz) ?_
                  show Go p.tables e below P (T36.setTop (mkF m 243 #[.val (.int p0), .val (.int p1), .val (.int p2), .val (.int p3), .val (.long tt), .second, .val (.int (3 : Int32)), .val (.int s0), .val (.int s1), .val (.int c2), t3, .val (.ref b23), .val (.ref b30), .val (.long ((own_f4 tt (86400 : Int64)) * (86400 : Int64) + s1.toInt64)), .second, .val (.long rr), .second, .val (.long (tt - rr)), .second, .unset, .unset] [(.int (XT.cmpL rr s0.toInt64))]))
                  refine Go.s (fun kz => XS.ifYes X36.here hx rfl (pc0 := 243) (pc' := 257) rfl (hb hby at_243) rfl (XT.ll_gt_t (by have z104 := hc104; rw [← Int32.toInt_inj] at z104; have z119 := hc119; rw [← Int32.toInt_inj] at z119; rw [Int64.lt_iff_toInt_lt, Jvm.Kit.i64_of_i32]; omega)) (by decide) (by decide) kz) ?_
                  show Go p.tables e below P (T36.setTop (mkF m 257 #[.val (.int p0), .val (.int p1), .val (.int p2), .val (.int p3), .val (.long tt), .second, .val (.int (3 : Int32)), .val (.int s0), .val (.int s1), .val (.int c2), t3, .val (.ref b23), .val (.ref b30), .val (.long ((own_f4 tt (86400 : Int64)) * (86400 : Int64) + s1.toInt64)), .second, .val (.long rr), .second, .val (.long (tt - rr)), .second, .unset, .unset] []))
                  refine Go.s (fun kz => XS.iload X36.here hx rfl (hb hby at_257) rfl kz) ?_
                  refine Go.s (fun kz => XS.iconst X36.here hx rfl (hb hby at_259) kz) ?_
                  show Go p.tables e below P (T36.setTop (mkF m 260 #[.val (.int p0), .val (.int p1), .val (.int p2), .val (.int p3), .val (.long tt), .second, .val (.int (3 : Int32)), .val (.int s0), .val (.int s1), .val (.int c2), t3, .val (.ref b23), .val (.ref b30), .val (.long ((own_f4 tt (86400 : Int64)) * (86400 : Int64) + s1.toInt64)), .second, .val (.long rr), .second, .val (.long (tt - rr)), .second, .unset, .unset] [(.int (2 : Int32)), (.int (3 : Int32))]))
                  refine Go.s (fun kz => XS.icmpNo X36.here hx rfl (hb hby at_260) rfl (XT.ii_lt_f (by decide)) kz) ?_
                  show Go p.tables e below P (T36.setTop (mkF m 263 #[.val (.int p0), .val (.int p1), .val (.int p2), .val (.int p3), .val (.long tt), .second, .val (.int (3 : Int32)), .val (.int s0), .val (.int s1), .val (.int c2), t3, .val (.ref b23), .val (.ref b30), .val (.long ((own_f4 tt (86400 : Int64)) * (86400 : Int64) + s1.toInt64)), .second, .val (.long rr), .second, .val (.long (tt - rr)), .second, .unset, .unset] []))
                  refine Go.s (fun kz => XT.lload X36.here hx rfl (hb hby at_263) rfl kz) ?_
                  refine Go.s (fun kz => XS.iload X36.here hx rfl (hb hby at_265) rfl kz) ?_
                  refine Go.s (fun kz => XT.i2l X36.here hx rfl (hb hby at_267) rfl kz) ?_
                  refine Go.s (fun kz => XT.lcmp X36.here hx rfl (hb hby at_268) rfl kz) ?_
                  show Go p.tables e below P (T36.setTop (mkF m 269 #[.val (.int p0), .val (.int p1), .val (.int p2), .val (.int p3), .val (.long tt), .second, .val (.int (3 : Int32)), .val (.int s0), .val (.int s1), .val (.int c2), t3, .val (.ref b23), .val (.ref b30), .val (.long ((own_f4 tt (86400 : Int64)) * (86400 : Int64) + s1.toInt64)), .second, .val (.long rr), .second, .val (.long (tt - rr)), .second, .unset, .unset] [(.int (XT.cmpL rr s1.toInt64))]))
                  refine Go.s (fun kz => XS.ifNo X36.here hx rfl (hb hby at_269) rfl (XT.ll_gt_f (by have z104 := hc104; rw [← Int32.toInt_inj] at z104; have z119 := hc119; rw [← Int32.toInt_inj] at z119; rw [Int64.lt_iff_toInt_lt, Jvm.Kit.i64_of_i32]; omega)) kz) ?_
                  show Go p.tables e below P (T36.setTop (mkF m 272 #[.val (.int p0), .val (.int p1), .val (.int p2), .val (.int p3), .val (.long tt), .second, .val (.int (3 : Int32)), .val (.int s0), .val (.int s1), .val (.int c2), t3, .val (.ref b23), .val (.ref b30), .val (.long ((own_f4 tt (86400 : Int64)) * (86400 : Int64) + s1.toInt64)), .second, .val (.long rr), .second, .val (.long (tt - rr)), .second, .unset, .unset] []))
                  refine Go.s (fun kz => XT.lload X36.here hx rfl (hb hby at_272) rfl kz) ?_
                  refine Go.s (fun kz => XS.iload X36.here hx rfl (hb hby at_274) rfl kz) ?_
                  refine Go.s (fun kz => XT.i2l X36.here hx rfl (hb hby at_276) rfl kz) ?_
                  refine Go.s (fun kz => XT.ladd X36.here hx rfl (hb hby at_277) rfl kz) ?_
                  refine Go.s (fun kz => XT.lstore X36.here hx rfl (hb hby at_278) rfl (l' := #[.val (.int p0), .val (.int p1), .val (.int p2), .val (.int p3), .val (.long tt), .second, .val (.int (3 : Int32)), .val (.int s0), .val (.int s1), .val (.int c2), t3, .val (.ref b23), .val (.ref b30), .val (.long ((own_f4 tt (86400 : Int64)) * (86400 : Int64) + s1.toInt64)), .second, .val (.long rr), .second, .val (.long (tt - rr)), .second, .val (.long ((tt - rr) + s1.toInt64)), .second]) rfl kz) ?_
                  refine Go.s (fun kz => XS.goto X36.here hx rfl (pc0 := 280) (pc' := 321) rfl (hb hby at_280) (by decide) (by decide) kz) ?_
                  show Go p.tables e below P (T36.setTop (mkF m 321 #[.val (.int p0), .val (.int p1), .val (.int p2), .val (.int p3), .val (.long tt), .second, .val (.int (3 : Int32)), .val (.int s0), .val (.int s1), .val (.int c2), t3, .val (.ref b23), .val (.ref b30), .val (.long ((own_f4 tt (86400 : Int64)) * (86400 : Int64) + s1.toInt64)), .second, .val (.long rr), .second, .val (.long (tt - rr)), .second, .val (.long ((tt - rr) + s1.toInt64)), .second] []))
                  refine Go.s (fun kz => XT.lload X36.here hx rfl (hb hby at_321) rfl kz) ?_
                  show Go p.tables e below P (T36.setTop (mkF m 323 #[.val (.int p0), .val (.int p1), .val (.int p2), .val (.int p3), .val (.long tt), .second, .val (.int (3 : Int32)), .val (.int s0), .val (.int s1), .val (.int c2), t3, .val (.ref b23), .val (.ref b30), .val (.long ((own_f4 tt (86400 : Int64)) * (86400 : Int64) + s1.toInt64)), .second, .val (.long rr), .second, .val (.long (tt - rr)), .second, .val (.long ((tt - rr) + s1.toInt64)), .second] [(.long ((own_f4 tt (86400 : Int64)) * (86400 : Int64) + s1.toInt64))]))
                  refine Go.s (fun kz => XT.lload X36.here hx rfl (hb hby at_323) rfl kz) ?_
                  refine Go.s (fun kz => XT.lcmp X36.here hx rfl (hb hby at_325) rfl kz) ?_
                  show Go p.tables e below P (T36.setTop (mkF m 326 #[.val (.int p0), .val (.int p1), .val (.int p2), .val (.int p3), .val (.long tt), .second, .val (.int (3 : Int32)), .val (.int s0), .val (.int s1), .val (.int c2), t3, .val (.ref b23), .val (.ref b30), .val (.long ((own_f4 tt (86400 : Int64)) * (86400 : Int64) + s1.toInt64)), .second, .val (.long rr), .second, .val (.long (tt - rr)), .second, .val (.long ((tt - rr) + s1.toInt64)), .second] [(.int (XT.cmpL ((own_f4 tt (86400 : Int64)) * (86400 : Int64) + s1.toInt64) ((tt - rr) + s1.toInt64)))]))
                  refine Go.s (fun kz => XS.ifNo X36.here hx rfl (hb hby at_326) rfl (XT.ll_ne_f (own_got tt rr s1 hrr)) kz) ?_
                  show Go p.tables e below P (T36.setTop (mkF m 329 #[.val (.int p0), .val (.int p1), .val (.int p2), .val (.int p3), .val (.long tt), .second, .val (.int (3 : Int32)), .val (.int s0), .val (.int s1), .val (.int c2), t3, .val (.ref b23), .val (.ref b30), .val (.long ((own_f4 tt (86400 : Int64)) * (86400 : Int64) + s1.toInt64)), .second, .val (.long rr), .second, .val (.long (tt - rr)), .second, .val (.long ((tt - rr) + s1.toInt64)), .second] []))
                  refine Go.s (fun kz => XS.iconst X36.here hx rfl (hb hby at_329) kz) ?_
                  refine Go.s (fun kz => XS.goto X36.here hx rfl (pc0 := 330) (pc' := 334) rfl (hb hby at_330) (by decide) (by decide) kz) ?_
                  show Go p.tables e below P (T36.setTop (mkF m 334 #[.val (.int p0), .val (.int p1), .val (.int p2), .val (.int p3), .val (.long tt), .second, .val (.int (3 : Int32)), .val (.int s0), .val (.int s1), .val (.int c2), t3, .val (.ref b23), .val (.ref b30), .val (.long ((own_f4 tt (86400 : Int64)) * (86400 : Int64) + s1.toInt64)), .second, .val (.long rr), .second, .val (.long (tt - rr)), .second, .val (.long ((tt - rr) + s1.toInt64)), .second] [(.int (1 : Int32))]))
                  exact Go.retZ X36 hx hlk hret (by decide) (hb hby at_334) (fun U hU hF => hP U _ _ ⟨rfl, N36⟩ ⟨hF.1, hF.2.1, hF.2.2.mono (by decide) (by decide)⟩)
                refine Go.s (fun kz => XT.lload X36.here hx rfl (hb hby at_215) rfl kz) ?_
                refine Go.s (fun kz => XT.lconst X36.here hx rfl (hb hby at_217) kz) ?_
                refine Go.s (fun kz => XT.lcmp X36.here hx rfl (hb hby at_218) rfl kz) ?_
                show Go p.tables e below P (T36.setTop (mkF m 219 #[.val (.int p0), .val (.int p1), .val (.int p2), .val (.int p3), .val (.long tt), .second, .val (.int (3 : Int32)), .val (.int s0), .val (.int s1), .val (.int c2), t3, .val (.ref b23), .val (.ref b30), .val (.long ((own_f4 tt (86400 : Int64)) * (86400 : Int64) + s1.toInt64)), .second, .val (.long (tt % (86400 : Int64))), .second, .unset, .unset, .unset, .unset] [(.int (XT.cmpL (tt % (86400 : Int64)) (0 : Int64)))]))
                by_cases hc219 : (tt % (86400 : Int64)) < (0 : Int64)
                · skip
                  refine Go.s (fun kz => XS.ifNo X36.here hx rfl (hb hby at_219) rfl (XT.ll_ge_f hc219) kz) ?_
                  show Go p.tables e below P (T36.setTop (mkF m 222 #[.val (.int p0), .val (.int p1), .val (.int p2), .val (.int p3), .val (.long tt), .second, .val (.int (3 : Int32)), .val (.int s0), .val (.int s1), .val (.int c2), t3, .val (.ref b23), .val (.ref b30), .val (.long ((own_f4 tt (86400 : Int64)) * (86400 : Int64) + s1.toInt64)), .second, .val (.long (tt % (86400 : Int64))), .second, .unset, .unset, .unset, .unset] []))
                  refine Go.s (fun kz => XT.lload X36.here hx rfl (hb hby at_222) rfl kz) ?_
                  refine Go.s (fun kz => X36.ldc2J hx hown (mvT hZ (hw _ (List.mem_of_getElem? (i := 38) rfl))) rfl (hb hby at_224) kz) ?_
                  refine Go.s (fun kz => XT.ladd X36.here hx rfl (hb hby at_227) rfl kz) ?_
                  refine Go.s (fun kz => XT.lstore X36.here hx rfl (hb hby at_228) rfl (l' := #[.val (.int p0), .val (.int p1), .val (.int p2), .val (.int p3), .val (.long tt), .second, .val (.int (3 : Int32)), .val (.int s0), .val (.int s1), .val (.int c2), t3, .val (.ref b23), .val (.ref b30), .val (.long ((own_f4 tt (86400 : Int64)) * (86400 : Int64) + s1.toInt64)), .second, .val (.long ((tt % (86400 : Int64)) + (86400 : Int64))), .second, .unset, .unset, .unset, .unset]) rfl kz) ?_
                  show Go p.tables e below P (T36.setTop (mkF m 230 #[.val (.int p0), .val (.int p1), .val (.int p2), .val (.int p3), .val (.long tt), .second, .val (.int (3 : Int32)), .val (.int s0), .val (.int s1), .val (.int c2), t3, .val (.ref b23), .val (.ref b30), .val (.long ((own_f4 tt (86400 : Int64)) * (86400 : Int64) + s1.toInt64)), .second, .val (.long ((tt % (86400 : Int64)) + (86400 : Int64))), .second, .unset, .unset, .unset, .unset] []))
                  exact J230 ((tt % (86400 : Int64)) + (86400 : Int64)) ((own_rr tt).2 hc219)
                · skip
                  refine Go.s (fun kz => XS.ifYes X36.here hx rfl (pc0 := 219) (pc' := 230) rfl (hb hby at_219) rfl (XT.ll_ge_t hc219) (by decide) (by decide) kz) ?_
                  show Go p.tables e below P (T36.setTop (mkF m 230 #[.val (.int p0), .val (.int p1), .val (.int p2), .val (.int p3), .val (.long tt), .second, .val (.int (3 : Int32)), .val (.int s0), .val (.int s1), .val (.int c2), t3, .val (.ref b23), .val (.ref b30), .val (.long ((own_f4 tt (86400 : Int64)) * (86400 : Int64) + s1.toInt64)), .second, .val (.long (tt % (86400 : Int64))), .second, .unset, .unset, .unset, .unset] []))
                  exact J230 (tt % (86400 : Int64)) ((own_rr tt).1 hc219)
      refine Go.s (fun kz => XS.iload X0.here hx rfl (hb hby at_75) rfl kz) ?_
      refine Go.s (fun kz => XS.iload X0.here hx rfl (hb hby at_77) rfl kz) ?_
      show Go p.tables e below P (s₁.setTop (mkF m 79 #[.val (.int p0), .val (.int p1), .val (.int p2), .val (.int p3), .val (.long tt), .second, .val (.int nn), .val (.int a1), .val (.int b2), .val (.int c2), t2, .unset, .unset, .unset, .unset, .unset, .unset, .unset, .unset, .unset, .unset] [(.int b2), (.int a1)]))
      by_cases hc79 : b2 < a1
      · skip
        refine Go.s (fun kz => XS.icmpNo X0.here hx rfl (hb hby at_79) rfl (XT.ii_le_f hc79) kz) ?_
        show Go p.tables e below P (s₁.setTop (mkF m 82 #[.val (.int p0), .val (.int p1), .val (.int p2), .val (.int p3), .val (.long tt), .second, .val (.int nn), .val (.int a1), .val (.int b2), .val (.int c2), t2, .unset, .unset, .unset, .unset, .unset, .unset, .unset, .unset, .unset, .unset] []))
        refine Go.s (fun kz => XS.iload X0.here hx rfl (hb hby at_82) rfl kz) ?_
        refine Go.s (fun kz => XS.istoreS X0.here hx rfl (hb hby at_84) rfl rfl ht2 kz) ?_
        refine Go.s (fun kz => XS.iload X0.here hx rfl (hb hby at_86) rfl kz) ?_
        refine Go.s (fun kz => XS.istore X0.here hx rfl (hb hby at_88) rfl (l' := #[.val (.int p0), .val (.int p1), .val (.int p2), .val (.int p3), .val (.long tt), .second, .val (.int nn), .val (.int b2), .val (.int b2), .val (.int c2), .val (.int a1), .unset, .unset, .unset, .unset, .unset, .unset, .unset, .unset, .unset, .unset]) rfl kz) ?_
        refine Go.s (fun kz => XS.iload X0.here hx rfl (hb hby at_90) rfl kz) ?_
        refine Go.s (fun kz => XS.istore X0.here hx rfl (hb hby at_92) rfl (l' := #[.val (.int p0), .val (.int p1), .val (.int p2), .val (.int p3), .val (.long tt), .second, .val (.int nn), .val (.int b2), .val (.int a1), .val (.int c2), .val (.int a1), .unset, .unset, .unset, .unset, .unset, .unset, .unset, .unset, .unset, .unset]) rfl kz) ?_
        show Go p.tables e below P (s₁.setTop (mkF m 94 #[.val (.int p0), .val (.int p1), .val (.int p2), .val (.int p3), .val (.long tt), .second, .val (.int nn), .val (.int b2), .val (.int a1), .val (.int c2), .val (.int a1), .unset, .unset, .unset, .unset, .unset, .unset, .unset, .unset, .unset, .unset] []))
        exact J94 b2 a1 (.val (.int a1)) (by have z := hc79; rw [Int32.lt_iff_toInt_lt] at z; omega) (Or.inr ⟨_, rfl, rfl⟩)
      · skip
        refine Go.s (fun kz => XS.icmpYes X0.here hx rfl (pc0 := 79) (pc' := 94) rfl (hb hby at_79) rfl (XT.ii_le_t hc79) (by decide) (by decide) kz) ?_
        show Go p.tables e below P (s₁.setTop (mkF m 94 #[.val (.int p0), .val (.int p1), .val (.int p2), .val (.int p3), .val (.long tt), .second, .val (.int nn), .val (.int a1), .val (.int b2), .val (.int c2), t2, .unset, .unset, .unset, .unset, .unset, .unset, .unset, .unset, .unset, .unset] []))
        exact J94 a1 b2 (t2) (by have z := hc79; rw [Int32.lt_iff_toInt_lt] at z; omega) ht2
    refine Go.s (fun kz => XS.iload X0.here hx rfl (hb hby at_56) rfl kz) ?_
    refine Go.s (fun kz => XS.iload X0.here hx rfl (hb hby at_58) rfl kz) ?_
    show Go p.tables e below P (s₁.setTop (mkF m 60 #[.val (.int p0), .val (.int p1), .val (.int p2), .val (.int p3), .val (.long tt), .second, .val (.int nn), .val (.int a1), .val (.int b1), .val (.int x2), t1, .unset, .unset, .unset, .unset, .unset, .unset, .unset, .unset, .unset, .unset] [(.int x2), (.int b1)]))
    by_cases hc60 : x2 < b1
    · skip
      refine Go.s (fun kz => XS.icmpNo X0.here hx rfl (hb hby at_60) rfl (XT.ii_le_f hc60) kz) ?_
      show Go p.tables e below P (s₁.setTop (mkF m 63 #[.val (.int p0), .val (.int p1), .val (.int p2), .val (.int p3), .val (.long tt), .second, .val (.int nn), .val (.int a1), .val (.int b1), .val (.int x2), t1, .unset, .unset, .unset, .unset, .unset, .unset, .unset, .unset, .unset, .unset] []))
      refine Go.s (fun kz => XS.iload X0.here hx rfl (hb hby at_63) rfl kz) ?_
      refine Go.s (fun kz => XS.istoreS X0.here hx rfl (hb hby at_65) rfl rfl ht1 kz) ?_
      refine Go.s (fun kz => XS.iload X0.here hx rfl (hb hby at_67) rfl kz) ?_
      refine Go.s (fun kz => XS.istore X0.here hx rfl (hb hby at_69) rfl (l' := #[.val (.int p0), .val (.int p1), .val (.int p2), .val (.int p3), .val (.long tt), .second, .val (.int nn), .val (.int a1), .val (.int x2), .val (.int x2), .val (.int b1), .unset, .unset, .unset, .unset, .unset, .unset, .unset, .unset, .unset, .unset]) rfl kz) ?_
      refine Go.s (fun kz => XS.iload X0.here hx rfl (hb hby at_71) rfl kz) ?_
      refine Go.s (fun kz => XS.istore X0.here hx rfl (hb hby at_73) rfl (l' := #[.val (.int p0), .val (.int p1), .val (.int p2), .val (.int p3), .val (.long tt), .second, .val (.int nn), .val (.int a1), .val (.int x2), .val (.int b1), .val (.int b1), .unset, .unset, .unset, .unset, .unset, .unset, .unset, .unset, .unset, .unset]) rfl kz) ?_
      show Go p.tables e below P (s₁.setTop (mkF m 75 #[.val (.int p0), .val (.int p1), .val (.int p2), .val (.int p3), .val (.long tt), .second, .val (.int nn), .val (.int a1), .val (.int x2), .val (.int b1), .val (.int b1), .unset, .unset, .unset, .unset, .unset, .unset, .unset, .unset, .unset, .unset] []))
      exact J75 x2 b1 (.val (.int b1)) (by have z := hc60; rw [Int32.lt_iff_toInt_lt] at z; omega) (Or.inr ⟨_, rfl, rfl⟩)
    · skip
      refine Go.s (fun kz => XS.icmpYes X0.here hx rfl (pc0 := 60) (pc' := 75) rfl (hb hby at_60) rfl (XT.ii_le_t hc60) (by decide) (by decide) kz) ?_
      show Go p.tables e below P (s₁.setTop (mkF m 75 #[.val (.int p0), .val (.int p1), .val (.int p2), .val (.int p3), .val (.long tt), .second, .val (.int nn), .val (.int a1), .val (.int b1), .val (.int x2), t1, .unset, .unset, .unset, .unset, .unset, .unset, .unset, .unset, .unset, .unset] []))
      exact J75 b1 x2 (t1) (by have z := hc60; rw [Int32.lt_iff_toInt_lt] at z; omega) ht1
  refine Go.s (fun kz => XS.iload X0.here hx rfl (hb hby at_37) rfl kz) ?_
  refine Go.s (fun kz => XS.iload X0.here hx rfl (hb hby at_39) rfl kz) ?_
  show Go p.tables e below P (s₁.setTop (mkF m 41 #[.val (.int p0), .val (.int p1), .val (.int p2), .val (.int p3), .val (.long tt), .second, .val (.int nn), .val (.int x0), .val (.int x1), .val (.int x2), .unset, .unset, .unset, .unset, .unset, .unset, .unset, .unset, .unset, .unset, .unset] [(.int x1), (.int x0)]))
  by_cases hc41 : x1 < x0
  · skip
    refine Go.s (fun kz => XS.icmpNo X0.here hx rfl (hb hby at_41) rfl (XT.ii_le_f hc41) kz) ?_
    show Go p.tables e below P (s₁.setTop (mkF m 44 #[.val (.int p0), .val (.int p1), .val (.int p2), .val (.int p3), .val (.long tt), .second, .val (.int nn), .val (.int x0), .val (.int x1), .val (.int x2), .unset, .unset, .unset, .unset, .unset, .unset, .unset, .unset, .unset, .unset, .unset] []))
    refine Go.s (fun kz => XS.iload X0.here hx rfl (hb hby at_44) rfl kz) ?_
    refine Go.s (fun kz => XS.istore X0.here hx rfl (hb hby at_46) rfl (l' := #[.val (.int p0), .val (.int p1), .val (.int p2), .val (.int p3), .val (.long tt), .second, .val (.int nn), .val (.int x0), .val (.int x1), .val (.int x2), .val (.int x0), .unset, .unset, .unset, .unset, .unset, .unset, .unset, .unset, .unset, .unset]) rfl kz) ?_
    refine Go.s (fun kz => XS.iload X0.here hx rfl (hb hby at_48) rfl kz) ?_
    refine Go.s (fun kz => XS.istore X0.here hx rfl (hb hby at_50) rfl (l' := #[.val (.int p0), .val (.int p1), .val (.int p2), .val (.int p3), .val (.long tt), .second, .val (.int nn), .val (.int x1), .val (.int x1), .val (.int x2), .val (.int x0), .unset, .unset, .unset, .unset, .unset, .unset, .unset, .unset, .unset, .unset]) rfl kz) ?_
    refine Go.s (fun kz => XS.iload X0.here hx rfl (hb hby at_52) rfl kz) ?_
    refine Go.s (fun kz => XS.istore X0.here hx rfl (hb hby at_54) rfl (l' := #[.val (.int p0), .val (.int p1), .val (.int p2), .val (.int p3), .val (.long tt), .second, .val (.int nn), .val (.int x1), .val (.int x0), .val (.int x2), .val (.int x0), .unset, .unset, .unset, .unset, .unset, .unset, .unset, .unset, .unset, .unset]) rfl kz) ?_
    show Go p.tables e below P (s₁.setTop (mkF m 56 #[.val (.int p0), .val (.int p1), .val (.int p2), .val (.int p3), .val (.long tt), .second, .val (.int nn), .val (.int x1), .val (.int x0), .val (.int x2), .val (.int x0), .unset, .unset, .unset, .unset, .unset, .unset, .unset, .unset, .unset, .unset] []))
    exact J56 x1 x0 (.val (.int x0)) (by have z := hc41; rw [Int32.lt_iff_toInt_lt] at z; omega) (Or.inr ⟨_, rfl, rfl⟩)
  · skip
    refine Go.s (fun kz => XS.icmpYes X0.here hx rfl (pc0 := 41) (pc' := 56) rfl (hb hby at_41) rfl (XT.ii_le_t hc41) (by decide) (by decide) kz) ?_
    show Go p.tables e below P (s₁.setTop (mkF m 56 #[.val (.int p0), .val (.int p1), .val (.int p2), .val (.int p3), .val (.long tt), .second, .val (.int nn), .val (.int x0), .val (.int x1), .val (.int x2), .unset, .unset, .unset, .unset, .unset, .unset, .unset, .unset, .unset, .unset, .unset] []))
    exact J56 x0 x1 (.unset) (by have z := hc41; rw [Int32.lt_iff_toInt_lt] at z; omega) (Or.inl rfl)
set_option maxRecDepth 65536 in
set_option maxHeartbeats 40000000 in
theorem own_comes {Post : Tables → Env → Array Value → State → Outcome → State → Prop} (hpost : ∀ tb e args s v u, (limb_1_1.after args s (.returned v) u = true ∧ limb_1_2.after args s (.returned v) u = true ∧ True) → FrameEnd s (.returned v) u (Jvm.fieldLocs frame_1_writes args s ++ Jvm.arrayLocs frame_1_arrays args s ++ Jvm.staticLocs frame_1_statics s) 16 128 → Post tb e args s (.returned v) u) :
    ArmFor flags0 classFile x code maxLocals ret World_1 tables_1 room_1 Calls_1 rest_1 Pre_1 Post := by
  intro l hfl _ _ p e ha hc hk s m args below hf hA hF happ hP
  obtain ⟨hcalls, hrest, hpre⟩ := hP
  obtain ⟨-, -, -, hnamed, -, -, -, hat⟩ := (Spec.applies_iff hf).mp happ
  obtain ⟨hg, hn⟩ := and_e (Cond.before_iff.mp (show (Jvm.Cond.and given_1 narrow_1).before args s = true from hpre))
  obtain ⟨h1, g1⟩ := and_e hg
  obtain ⟨w0, w1, w2, w3, w4, rfl⟩ : ∃ w0 w1 w2 w3 w4 : Value, args = #[w0, w1, w2, w3, w4] := by
    have hs : args.size = 5 := by simpa [Cond.value, given_1] using h1
    obtain ⟨L⟩ := args
    match L, hs with
    | [w0, w1, w2, w3, w4], _ => exact ⟨w0, w1, w2, w3, w4, rfl⟩
  have hw := fun d (hd : d ∈ tables_1) => atoms_spec (ws := Jvm.Cond.code x code maxLocals ret :: tables_1) hat d (List.mem_cons_of_mem _ hd)
  have hfit : Fit s := fun {y c} hc i hi => by
    obtain ⟨ha, rfl⟩ := Array.getElem?_eq_some_iff.mp hc
    have q := List.all_eq_true.mp ((Array.all_eq_true_iff_forall_mem.mp hF) _ (Array.getElem_mem ha)) i (List.mem_range.mpr hi)
    simpa [Array.getElem?_eq_getElem hi] using q
  obtain ⟨a0, g2⟩ := and_e g1
  obtain ⟨i0, ee0⟩ := is_v a0
  obtain rfl : w0 = (.int i0) := Option.some.inj ee0
  obtain ⟨a1, g3⟩ := and_e g2
  obtain ⟨i1, ee1⟩ := is_v a1
  obtain rfl : w1 = (.int i1) := Option.some.inj ee1
  obtain ⟨a2, g4⟩ := and_e g3
  obtain ⟨i2, ee2⟩ := is_v a2
  obtain rfl : w2 = (.int i2) := Option.some.inj ee2
  obtain ⟨a3, g5⟩ := and_e g4
  obtain ⟨i3, ee3⟩ := is_v a3
  obtain rfl : w3 = (.int i3) := Option.some.inj ee3
  obtain ⟨i4, ee4⟩ := isL_v g5
  obtain rfl : w4 = (.long i4) := Option.some.inj ee4
  obtain ⟨n, o, h1, h2, h3, _, L, rfl, ⟨rfl, N⟩, hq⟩ := own_rm0 l s _ hw tables_1 i0 i1 i2 i3 i4  s.heap s.heap.size (Nat.le_refl _)  p e ha hc hk s m _ below hf ((Spec.applies_iff_loose hf).mp happ).1 ⟨rfl, State.Warmed39.refl s, rfl⟩ trivial
  refine ⟨n, _, h1, h2, h3, hpost _ _ _ _ _ _ ⟨Cond.after_iff.mpr rfl, Cond.after_iff.mpr (eq_i res_at (Term.int_eval (1)) rfl), trivial⟩ ⟨hq.1, hq.2.1, (hq.2.2.sift fun y hy => Or.inr (N y hy)).mono (by decide) (by decide)⟩⟩
theorem main_1_1 : Claimed_1_1 := own_comes fun _ _ _ _ _ _ h hF => ⟨h.1, hF⟩
theorem main_1_2 : Claimed_1_2 := own_comes fun _ _ _ _ _ _ h hF => ⟨h.2.1, hF⟩
end Jvm.Pilot.@@N@@
namespace Jvm.Pilot.@@N@@
open Jvm Jvm.ClassFile Sem Op Lib Jvm.Free Jvm.Stand Jvm.Pilot.@@N@@.Jvm.D
/-! MADE BY PROGRAM (witnessworld.py) out of the Statement's table words and the real class files: 12 classes; the members and pool entries that the words name. The judged class is class 1, her method 1. -/
namespace start1
open Jvm.ClassFile
def u (s : String) : CpInfo := .utf8 (stringToUtf16 s)
/-- a pool by its gaps: so many unusable entries, then the entry; so many at the end -/
def gap : Nat → List CpInfo → List CpInfo
  | 0, r => r
  | n + 1, r => .unusable :: gap n r
def poolList (es : List (Nat × CpInfo)) (last : Nat) : List CpInfo := es.foldr (fun e r => gap e.1 (e.2 :: r)) (gap last [])
def pool (es : List (Nat × CpInfo)) (last : Nat) : Array CpInfo := ⟨poolList es last⟩
def fileOf (pool : Array CpInfo) (this : Nat) (attrs : Array Attribute := #[]) (ms : Array MethodInfo := #[]) (fl : Nat := 33) (sup : Nat := 0) (ifs : Array Nat := #[]) (fds : Array FieldInfo := #[]) : ClassFile where
  minorVersion := 0
  majorVersion := 65
  constantPool := pool
  accessFlags := fl
  thisClass := this
  superClass := sup
  interfaces := ifs
  fields := fds
  methods := ms
  attributes := attrs
def plain (name : String) (sup : Option ClassId) : Class where
  name := name
  kind := .ordinary
  loader := none
  accessFlags := 33
  super := sup
  interfaces := #[]
  cf := none
  fields := #[]
  methods := #[]
  instanceTypes := #[]
  staticTypes := #[]
  resolved := #[]
  callSites := []
  init := .initialized
  statics := none
  mirror := none

def pool0 : Array CpInfo := pool [(5, u "<init>"), (0, u "()V"), (1, .class_ 10), (1, u "java/lang/Object")] 113

def k0c0 : Code := { maxStack := 0, maxLocals := 1, code := object_method_1_code, exceptionTable := #[], attributes := #[] }
def k0m0 : Method := { name := "<init>", desc := "()V", sig := { parameters := [], returnType := none }, accessFlags := 1, code := some k0c0 }
/-- java/lang/Object -/
def k0 : Class := { plain "java/lang/Object" none with
  accessFlags := 33
  interfaces := #[]
  cf := some (fileOf pool0 8 #[] #[{ accessFlags := 1, nameIndex := 5, descriptorIndex := 6, attributes := #[] }] 33 0 #[] #[])
  fields := #[]
  methods := #[k0m0]
  instanceTypes := #[]
  staticTypes := #[]
  resolved := Array.replicate 124 none
  statics := none }

def pool1 : Array CpInfo := pool [(2, .class_ 4), (1, u "java/lang/Object"), (0, u "<init>"), (0, u "()V"), (0, .integer 2147483647), (0, .integer 86400), (0, .class_ 10), (0, u "com/example/tempo_feed/tempofeed/core/DailyPolls"), (0, .methodref 9 12), (0, .nameAndType 5 13), (0, u "([I)V"), (0, .methodref 9 15), (0, .nameAndType 16 17), (0, u "firstAtOrAfter"), (0, u "(J)J"), (0, .long 86400), (1, .class_ 21), (0, u "com/example/tempo_feed/tempofeed/core/DailyPollsFirstAtOrAfterPinLaw"), (2, u "law"), (0, u "(IIIIJ)Z")] 5

def k1m0 : Method := { name := "<init>", desc := "()V", sig := { parameters := [], returnType := none }, accessFlags := 1, code := none }
def k1c1 : Code := { maxStack := 4, maxLocals := 21, code := code, exceptionTable := #[], attributes := #[] }
def k1m1 : Method := { name := "law", desc := "(IIIIJ)Z", sig := { parameters := [.int, .int, .int, .int, .long], returnType := some .boolean }, accessFlags := 9, code := some k1c1 }
/-- com/example/tempo_feed/tempofeed/core/DailyPollsFirstAtOrAfterPinLaw -/
def k1 : Class := { plain "com/example/tempo_feed/tempofeed/core/DailyPollsFirstAtOrAfterPinLaw" (some 0) with
  accessFlags := 49
  interfaces := #[]
  cf := some (fileOf pool1 20 #[] #[{ accessFlags := 1, nameIndex := 5, descriptorIndex := 6, attributes := #[] }, { accessFlags := 9, nameIndex := 24, descriptorIndex := 25, attributes := #[] }] 49 2 #[] #[])
  fields := #[]
  methods := #[k1m0, k1m1]
  instanceTypes := #[]
  staticTypes := #[]
  resolved := Array.replicate 31 none
  statics := none }

def pool2 : Array CpInfo := pool [(1, .class_ 2), (0, u "com/example/tempo_feed/tempofeed/core/FeedPolls"), (0, .class_ 4), (0, u "java/lang/Object")] 6

/-- com/example/tempo_feed/tempofeed/core/FeedPolls -/
def k2 : Class := { plain "com/example/tempo_feed/tempofeed/core/FeedPolls" (some 0) with
  accessFlags := 1537
  interfaces := #[]
  cf := some (fileOf pool2 1 #[] #[] 1537 3 #[] #[])
  fields := #[]
  methods := #[]
  instanceTypes := #[]
  staticTypes := #[]
  resolved := Array.replicate 11 none
  statics := none }

def pool3 : Array CpInfo := pool [(1, .methodref 2 3), (0, .class_ 4), (0, .nameAndType 5 6), (0, u "java/lang/Object"), (0, u "<init>"), (0, u "()V"), (0, .fieldref 8 9), (0, .class_ 10), (0, .nameAndType 11 12), (0, u "com/example/tempo_feed/tempofeed/core/DailyPolls"), (0, u "secondsOfDay"), (0, u "[I"), (0, .long 86400), (1, .methodref 16 17), (0, .class_ 18), (0, .nameAndType 19 20), (0, u "java/lang/Math"), (0, u "floorDiv"), (0, u "(JJ)J"), (0, .methodref 16 22), (0, .nameAndType 23 20), (0, u "floorMod"), (0, .methodref 8 25), (0, .nameAndType 26 27), (0, u "indexAtOrAfter"), (0, u "(J)I"), (3, u "(J)J"), (0, .methodref 33 34), (0, .class_ 35), (0, .nameAndType 36 37), (0, u "java/util/Arrays"), (0, u "binarySearch"), (0, u "([II)I"), (0, .class_ 39), (0, u "com/example/tempo_feed/tempofeed/core/FeedPolls"), (0, u "SECONDS_PER_DAY"), (0, u "J"), (1, u "([I)V"), (2, u "firstAtOrAfter")] 4

def k3c0 : Code := { maxStack := 2, maxLocals := 2, code := prog_13_method_1_code, exceptionTable := #[], attributes := #[] }
def k3m0 : Method := { name := "<init>", desc := "([I)V", sig := { parameters := [(.array .int)], returnType := none }, accessFlags := 0, code := some k3c0 }
def k3c1 : Code := { maxStack := 5, maxLocals := 8, code := prog_13_method_2_code, exceptionTable := #[], attributes := #[] }
def k3m1 : Method := { name := "firstAtOrAfter", desc := "(J)J", sig := { parameters := [.long], returnType := some .long }, accessFlags := 1, code := some k3c1 }
def k3c2 : Code := { maxStack := 3, maxLocals := 4, code := prog_13_method_5_code, exceptionTable := #[], attributes := #[] }
def k3m2 : Method := { name := "indexAtOrAfter", desc := "(J)I", sig := { parameters := [.long], returnType := some .int }, accessFlags := 2, code := some k3c2 }
/-- com/example/tempo_feed/tempofeed/core/DailyPolls -/
def k3 : Class := { plain "com/example/tempo_feed/tempofeed/core/DailyPolls" (some 0) with
  accessFlags := 48
  interfaces := #[2]
  cf := some (fileOf pool3 8 #[] #[{ accessFlags := 0, nameIndex := 5, descriptorIndex := 43, attributes := #[] }, { accessFlags := 1, nameIndex := 46, descriptorIndex := 31, attributes := #[] }, { accessFlags := 2, nameIndex := 26, descriptorIndex := 27, attributes := #[] }] 48 2 #[38] #[{ accessFlags := 26, nameIndex := 40, descriptorIndex := 41, attributes := #[] }, { accessFlags := 18, nameIndex := 11, descriptorIndex := 12, attributes := #[] }])
  fields := #[{ name := "SECONDS_PER_DAY", type := .long, accessFlags := 26, slot := 0, constantValue := 0 }, { name := "secondsOfDay", type := (.array .int), accessFlags := 18, slot := 0, constantValue := 0 }]
  methods := #[k3m0, k3m1, k3m2]
  instanceTypes := #[(.array .int)]
  staticTypes := #[.long]
  resolved := Array.replicate 51 none
  statics := none }

def pool4 : Array CpInfo := pool [(1, .class_ 2), (0, u "java/lang/Math"), (1, .class_ 6), (1, u "java/lang/Object"), (0, u "<init>"), (0, u "()V"), (89, .class_ 100), (1, u "java/lang/Math$RandomNumberGeneratorHolder"), (20, u "(JJ)J"), (23, u "floorDiv"), (2, u "floorMod"), (23, u "negativeZeroFloatBits"), (0, u "J"), (2, u "negativeZeroDoubleBits"), (68, u "$assertionsDisabled"), (0, u "Z"), (91, u "twoToTheDoubleScaleDown"), (0, u "D"), (4, u "twoToTheDoubleScaleUp"), (9, u "E"), (3, u "PI"), (2, u "TAU"), (2, u "DEGREES_TO_RADIANS"), (0, u "RADIANS_TO_DEGREES")] 94

def k4m0 : Method := { name := "<init>", desc := "()V", sig := { parameters := [], returnType := none }, accessFlags := 2, code := none }
def k4c1 : Code := { maxStack := 4, maxLocals := 6, code := jdk_29_method_49_code, exceptionTable := #[], attributes := #[] }
def k4m1 : Method := { name := "floorDiv", desc := "(JJ)J", sig := { parameters := [.long, .long], returnType := some .long }, accessFlags := 9, code := some k4c1 }
def k4c2 : Code := { maxStack := 4, maxLocals := 6, code := jdk_29_method_52_code, exceptionTable := #[], attributes := #[] }
def k4m2 : Method := { name := "floorMod", desc := "(JJ)J", sig := { parameters := [.long, .long], returnType := some .long }, accessFlags := 9, code := some k4c2 }
/-- java/lang/Math -/
def k4 : Class := { plain "java/lang/Math" (some 0) with
  accessFlags := 49
  interfaces := #[]
  cf := some (fileOf pool4 1 #[.nestMembers #[98]] #[{ accessFlags := 2, nameIndex := 7, descriptorIndex := 8, attributes := #[] }, { accessFlags := 9, nameIndex := 145, descriptorIndex := 121, attributes := #[] }, { accessFlags := 9, nameIndex := 148, descriptorIndex := 121, attributes := #[] }] 49 4 #[] #[{ accessFlags := 25, nameIndex := 354, descriptorIndex := 339, attributes := #[] }, { accessFlags := 25, nameIndex := 358, descriptorIndex := 339, attributes := #[] }, { accessFlags := 25, nameIndex := 361, descriptorIndex := 339, attributes := #[] }, { accessFlags := 26, nameIndex := 364, descriptorIndex := 339, attributes := #[] }, { accessFlags := 26, nameIndex := 365, descriptorIndex := 339, attributes := #[] }, { accessFlags := 26, nameIndex := 172, descriptorIndex := 173, attributes := #[] }, { accessFlags := 26, nameIndex := 176, descriptorIndex := 173, attributes := #[] }, { accessFlags := 8, nameIndex := 344, descriptorIndex := 339, attributes := #[] }, { accessFlags := 8, nameIndex := 338, descriptorIndex := 339, attributes := #[] }, { accessFlags := 4120, nameIndex := 245, descriptorIndex := 246, attributes := #[] }])
  fields := #[{ name := "E", type := .double, accessFlags := 25, slot := 0, constantValue := 0 }, { name := "PI", type := .double, accessFlags := 25, slot := 1, constantValue := 0 }, { name := "TAU", type := .double, accessFlags := 25, slot := 2, constantValue := 0 }, { name := "DEGREES_TO_RADIANS", type := .double, accessFlags := 26, slot := 3, constantValue := 0 }, { name := "RADIANS_TO_DEGREES", type := .double, accessFlags := 26, slot := 4, constantValue := 0 }, { name := "negativeZeroFloatBits", type := .long, accessFlags := 26, slot := 5, constantValue := 0 }, { name := "negativeZeroDoubleBits", type := .long, accessFlags := 26, slot := 6, constantValue := 0 }, { name := "twoToTheDoubleScaleUp", type := .double, accessFlags := 8, slot := 7, constantValue := 0 }, { name := "twoToTheDoubleScaleDown", type := .double, accessFlags := 8, slot := 8, constantValue := 0 }, { name := "$assertionsDisabled", type := .boolean, accessFlags := 4120, slot := 9, constantValue := 0 }]
  methods := #[k4m0, k4m1, k4m2]
  instanceTypes := #[]
  staticTypes := #[.double, .double, .double, .double, .double, .long, .long, .double, .double, .boolean]
  resolved := Array.replicate 460 none
  statics := none }

def pool5 : Array CpInfo := pool [(2, .class_ 4), (1, u "java/lang/Object"), (0, u "<init>"), (0, u "()V"), (7, .class_ 16), (1, u "java/util/Arrays"), (57, .class_ 76), (1, u "java/util/Arrays$NaturalOrder"), (36, .class_ 115), (1, u "java/util/Arrays$LegacyMergeSort"), (1, u "Z"), (89, u "binarySearch0"), (1, .methodref 14 210), (0, .nameAndType 207 211), (0, u "([IIII)I"), (163, .class_ 376), (0, u "java/util/Arrays$ArrayList"), (68, u "$assertionsDisabled"), (269, u "MIN_ARRAY_SORT_GRAN"), (0, u "I"), (2, u "INSERTIONSORT_THRESHOLD"), (74, u "binarySearch"), (4, u "([II)I"), (175, .class_ 976), (0, u "java/util/Arrays$ArrayItr")] 52

def k5m0 : Method := { name := "<init>", desc := "()V", sig := { parameters := [], returnType := none }, accessFlags := 2, code := none }
def k5c1 : Code := { maxStack := 4, maxLocals := 2, code := jdk_65_method_57_code, exceptionTable := #[], attributes := #[] }
def k5m1 : Method := { name := "binarySearch", desc := "([II)I", sig := { parameters := [(.array .int), .int], returnType := some .int }, accessFlags := 9, code := some k5c1 }
def k5c2 : Code := { maxStack := 2, maxLocals := 8, code := jdk_65_method_59_code, exceptionTable := #[], attributes := #[] }
def k5m2 : Method := { name := "binarySearch0", desc := "([IIII)I", sig := { parameters := [(.array .int), .int, .int, .int], returnType := some .int }, accessFlags := 10, code := some k5c2 }
/-- java/util/Arrays -/
def k5 : Class := { plain "java/util/Arrays" (some 0) with
  accessFlags := 49
  interfaces := #[]
  cf := some (fileOf pool5 14 #[.nestMembers #[975, 375, 113, 74]] #[{ accessFlags := 2, nameIndex := 5, descriptorIndex := 6, attributes := #[] }, { accessFlags := 9, nameIndex := 794, descriptorIndex := 799, attributes := #[] }, { accessFlags := 10, nameIndex := 207, descriptorIndex := 211, attributes := #[] }] 49 2 #[] #[{ accessFlags := 26, nameIndex := 715, descriptorIndex := 716, attributes := #[] }, { accessFlags := 26, nameIndex := 719, descriptorIndex := 716, attributes := #[] }, { accessFlags := 4120, nameIndex := 445, descriptorIndex := 117, attributes := #[] }])
  fields := #[{ name := "MIN_ARRAY_SORT_GRAN", type := .int, accessFlags := 26, slot := 0, constantValue := 0 }, { name := "INSERTIONSORT_THRESHOLD", type := .int, accessFlags := 26, slot := 1, constantValue := 0 }, { name := "$assertionsDisabled", type := .boolean, accessFlags := 4120, slot := 2, constantValue := 0 }]
  methods := #[k5m0, k5m1, k5m2]
  instanceTypes := #[]
  staticTypes := #[.int, .int, .boolean]
  resolved := Array.replicate 1029 none
  statics := none }

def pool6 : Array CpInfo := pool [(1, u "java/lang/Cloneable"), (0, .class_ 1), (0, u "java/lang/Object"), (0, .class_ 3)] 3

/-- java/lang/Cloneable -/
def k6 : Class := { plain "java/lang/Cloneable" (some 0) with
  accessFlags := 1537
  interfaces := #[]
  cf := some (fileOf pool6 2 #[] #[] 1537 4 #[] #[])
  fields := #[]
  methods := #[]
  instanceTypes := #[]
  staticTypes := #[]
  resolved := Array.replicate 8 none
  statics := none }

def pool7 : Array CpInfo := pool [(1, u "java/io/Serializable"), (0, .class_ 1), (0, u "java/lang/Object"), (0, .class_ 3)] 3

/-- java/io/Serializable -/
def k7 : Class := { plain "java/io/Serializable" (some 0) with
  accessFlags := 1537
  interfaces := #[]
  cf := some (fileOf pool7 2 #[] #[] 1537 4 #[] #[])
  fields := #[]
  methods := #[]
  instanceTypes := #[]
  staticTypes := #[]
  resolved := Array.replicate 8 none
  statics := none }

/-- the primitive byte -/
def k8 : Class := { plain "byte" none with kind := .primitive 'B', accessFlags := 0x411 }
/-- [B -/
def k9 : Class := { plain "[B" (some 0) with kind := .array 8 .byte, interfaces := #[6, 7], accessFlags := 1041 }

/-- the primitive int -/
def k10 : Class := { plain "int" none with kind := .primitive 'I', accessFlags := 0x411 }
/-- [I -/
def k11 : Class := { plain "[I" (some 0) with kind := .array 10 .int, interfaces := #[6, 7], accessFlags := 1041 }

def heap : Heap := #[]
def classes : Array Class := #[k0, k1, k2, k3, k4, k5, k6, k7, k8, k9, k10, k11]
def interned : List (Array UInt16 × Addr) := []
def slotsUsed : Nat := 0
def theMethod : MethodId := ⟨1, 1⟩
def args0 : Array Value := #[.int 5, .int 7, .int 8, .int 1, .long 100000]
def aboutOver (below : List Frame) : State where
  vm := { classes := classes, interned := interned.toArray }
  heap := heap
  slotsUsed := slotsUsed
  threads := #[{ frames := .invoking theMethod args0 :: below }]
def below0 : List Frame := [.native { method := ⟨0, 0⟩, args := #[] }]
def about1 : State := aboutOver below0
def p0 : Program := .bare "" "" ""
def e0 : Env := launch0.env 0 0 0
theorem w_frames : about1.frames = Frame.invoking theMethod args0 :: below0 := rfl
set_option maxRecDepth 65536 in
theorem w_args : argsFit about1.vm theMethod args0 = true := by decide +kernel
set_option maxRecDepth 65536 in
theorem w_heap : heapFits about1 = true := by decide +kernel
set_option maxRecDepth 65536 in
theorem w_runnable : about1.curStatus? = some .runnable := by decide +kernel
set_option maxRecDepth 65536 in
theorem w_alone : about1.alone = true := by decide +kernel
set_option maxRecDepth 65536 in
theorem w_named : about1.methodNamed? x = some theMethod := by decide +kernel
set_option maxRecDepth 65536 in
theorem w_hears : about1.hears theMethod below0 = true := by decide +kernel
set_option maxRecDepth 65536 in
theorem w_ripe : about1.ripe theMethod args0 below0 = true := by decide +kernel
theorem w_running : about1.status = .running := rfl
set_option maxRecDepth 65536 in
theorem w_room : about1.hasRoom e0.platform room_1 = true :=
  launch0.hasRoom_least _ room_1 (by decide +kernel) (by decide +kernel) (by decide +kernel) (by decide +kernel) (by decide +kernel) (by decide +kernel)
theorem allAtoms_all (ts : List Jvm.Cond) (a : Array Jvm.Value) (st : Jvm.State) : (allAtoms ts).before a st = ts.all (fun c => c.before a st) := by
  induction ts with
  | nil => rfl
  | cons c t ih =>
    show (Jvm.Cond.and c (allAtoms t)).before a st = _
    rw [Jvm.Cond.before_and, ih, List.all_cons]
def words1 : List Jvm.Cond := Jvm.Cond.code x code maxLocals ret :: tables_1
/-- a 'code' word, met by the world's own term for the bytes: nothing is compared byte by byte -/
theorem code_word {y : MethodName} {bytes : ByteArray} {mx : Nat} {rt : Option FieldType} {a : Array Value} {s : State} {m : MethodId} {meth : Method} {c : Code} (h1 : s.methodNamed? y = some m) (h2 : s.vm.method? m = some meth) (h3 : meth.code = some c) (h4 : c.code = bytes)
    (h5 : (c.maxLocals == mx && c.exceptionTable.isEmpty && decide (c.maxStack ≤ mostOperands) && decide (meth.sig.returnType = rt) && !meth.locks && decide (parseMethodDescriptor y.desc = some meth.sig)) = true) : (Jvm.Cond.code y bytes mx rt).before a s = true := by
  simp only [Bool.and_eq_true, beq_iff_eq, Bool.not_eq_true', decide_eq_true_eq] at h5
  obtain ⟨⟨⟨⟨⟨g1, g2⟩, g3⟩, g4⟩, g5⟩, g6⟩ := h5
  simp [Cond.before, Cond.holds, Cond.value, h1, h2, h3, h4, g1, g2, g3, g4, g5, g6]
def isCode : Jvm.Cond → Bool
  | .code _ _ _ _ => true
  | _ => false
theorem all_split {L : List Jvm.Cond} {P : Jvm.Cond → Bool} (h1 : L.all (fun c => isCode c || P c) = true) (h2 : ∀ c ∈ L.filter isCode, P c = true) : L.all P = true := by
  refine List.all_eq_true.mpr fun c hc => ?_
  have h := List.all_eq_true.mp h1 c hc
  rcases Bool.eq_false_or_eq_true (isCode c) with hi | hi
  · exact h2 c (List.mem_filter.mpr ⟨hc, hi⟩)
  · simpa [hi] using h
set_option maxRecDepth 65536 in
theorem w_c0 : (Jvm.Cond.code x code maxLocals ret).before args0 about1 = true := code_word (m := ⟨1, 1⟩) (meth := k1m1) (c := k1c1) (by decide +kernel) rfl rfl rfl (by decide +kernel)
set_option maxRecDepth 65536 in
theorem w_c1 : (Jvm.Cond.code ({ cls := "com/example/tempo_feed/tempofeed/core/DailyPolls", name := "<init>", desc := "([I)V" } : Jvm.MethodName) prog_13_method_1_code (2 : Nat) (Option.none : Option Jvm.ClassFile.FieldType)).before args0 about1 = true := code_word (m := ⟨3, 0⟩) (meth := k3m0) (c := k3c0) (by decide +kernel) rfl rfl rfl (by decide +kernel)
set_option maxRecDepth 65536 in
theorem w_c2 : (Jvm.Cond.code ({ cls := "java/lang/Object", name := "<init>", desc := "()V" } : Jvm.MethodName) object_method_1_code (1 : Nat) (Option.none : Option Jvm.ClassFile.FieldType)).before args0 about1 = true := code_word (m := ⟨0, 0⟩) (meth := k0m0) (c := k0c0) (by decide +kernel) rfl rfl rfl (by decide +kernel)
set_option maxRecDepth 65536 in
theorem w_c3 : (Jvm.Cond.code ({ cls := "com/example/tempo_feed/tempofeed/core/DailyPolls", name := "firstAtOrAfter", desc := "(J)J" } : Jvm.MethodName) prog_13_method_2_code (8 : Nat) (Option.some Jvm.ClassFile.FieldType.long)).before args0 about1 = true := code_word (m := ⟨3, 1⟩) (meth := k3m1) (c := k3c1) (by decide +kernel) rfl rfl rfl (by decide +kernel)
set_option maxRecDepth 65536 in
theorem w_c4 : (Jvm.Cond.code ({ cls := "java/lang/Math", name := "floorDiv", desc := "(JJ)J" } : Jvm.MethodName) jdk_29_method_49_code (6 : Nat) (Option.some Jvm.ClassFile.FieldType.long)).before args0 about1 = true := code_word (m := ⟨4, 1⟩) (meth := k4m1) (c := k4c1) (by decide +kernel) rfl rfl rfl (by decide +kernel)
set_option maxRecDepth 65536 in
theorem w_c5 : (Jvm.Cond.code ({ cls := "java/lang/Math", name := "floorMod", desc := "(JJ)J" } : Jvm.MethodName) jdk_29_method_52_code (6 : Nat) (Option.some Jvm.ClassFile.FieldType.long)).before args0 about1 = true := code_word (m := ⟨4, 2⟩) (meth := k4m2) (c := k4c2) (by decide +kernel) rfl rfl rfl (by decide +kernel)
set_option maxRecDepth 65536 in
theorem w_c6 : (Jvm.Cond.code ({ cls := "com/example/tempo_feed/tempofeed/core/DailyPolls", name := "indexAtOrAfter", desc := "(J)I" } : Jvm.MethodName) prog_13_method_5_code (4 : Nat) (Option.some Jvm.ClassFile.FieldType.int)).before args0 about1 = true := code_word (m := ⟨3, 2⟩) (meth := k3m2) (c := k3c2) (by decide +kernel) rfl rfl rfl (by decide +kernel)
set_option maxRecDepth 65536 in
theorem w_c7 : (Jvm.Cond.code ({ cls := "java/util/Arrays", name := "binarySearch", desc := "([II)I" } : Jvm.MethodName) jdk_65_method_57_code (2 : Nat) (Option.some Jvm.ClassFile.FieldType.int)).before args0 about1 = true := code_word (m := ⟨5, 1⟩) (meth := k5m1) (c := k5c1) (by decide +kernel) rfl rfl rfl (by decide +kernel)
set_option maxRecDepth 65536 in
theorem w_c8 : (Jvm.Cond.code ({ cls := "java/util/Arrays", name := "binarySearch0", desc := "([IIII)I" } : Jvm.MethodName) jdk_65_method_59_code (8 : Nat) (Option.some Jvm.ClassFile.FieldType.int)).before args0 about1 = true := code_word (m := ⟨5, 2⟩) (meth := k5m2) (c := k5c2) (by decide +kernel) rfl rfl rfl (by decide +kernel)
def codes1 : List Jvm.Cond := [Jvm.Cond.code x code maxLocals ret, Jvm.Cond.code ({ cls := "com/example/tempo_feed/tempofeed/core/DailyPolls", name := "<init>", desc := "([I)V" } : Jvm.MethodName) prog_13_method_1_code (2 : Nat) (Option.none : Option Jvm.ClassFile.FieldType), Jvm.Cond.code ({ cls := "java/lang/Object", name := "<init>", desc := "()V" } : Jvm.MethodName) object_method_1_code (1 : Nat) (Option.none : Option Jvm.ClassFile.FieldType), Jvm.Cond.code ({ cls := "com/example/tempo_feed/tempofeed/core/DailyPolls", name := "firstAtOrAfter", desc := "(J)J" } : Jvm.MethodName) prog_13_method_2_code (8 : Nat) (Option.some Jvm.ClassFile.FieldType.long), Jvm.Cond.code ({ cls := "java/lang/Math", name := "floorDiv", desc := "(JJ)J" } : Jvm.MethodName) jdk_29_method_49_code (6 : Nat) (Option.some Jvm.ClassFile.FieldType.long), Jvm.Cond.code ({ cls := "java/lang/Math", name := "floorMod", desc := "(JJ)J" } : Jvm.MethodName) jdk_29_method_52_code (6 : Nat) (Option.some Jvm.ClassFile.FieldType.long), Jvm.Cond.code ({ cls := "com/example/tempo_feed/tempofeed/core/DailyPolls", name := "indexAtOrAfter", desc := "(J)I" } : Jvm.MethodName) prog_13_method_5_code (4 : Nat) (Option.some Jvm.ClassFile.FieldType.int), Jvm.Cond.code ({ cls := "java/util/Arrays", name := "binarySearch", desc := "([II)I" } : Jvm.MethodName) jdk_65_method_57_code (2 : Nat) (Option.some Jvm.ClassFile.FieldType.int), Jvm.Cond.code ({ cls := "java/util/Arrays", name := "binarySearch0", desc := "([IIII)I" } : Jvm.MethodName) jdk_65_method_59_code (8 : Nat) (Option.some Jvm.ClassFile.FieldType.int)]
set_option maxRecDepth 65536 in
theorem codes_eq : words1.filter isCode = codes1 := rfl
theorem w_codes : ∀ c ∈ words1.filter isCode, c.before args0 about1 = true := by
  rw [codes_eq]
  intro c hc
  simp only [codes1, List.mem_cons, List.not_mem_nil, or_false] at hc
  rcases hc with rfl | rfl | rfl | rfl | rfl | rfl | rfl | rfl | rfl
  · exact w_c0
  · exact w_c1
  · exact w_c2
  · exact w_c3
  · exact w_c4
  · exact w_c5
  · exact w_c6
  · exact w_c7
  · exact w_c8
set_option maxRecDepth 65536 in
theorem w_t1 : (words1.take 24).all (fun c => isCode c || c.before args0 about1) = true := by decide +kernel
set_option maxRecDepth 65536 in
theorem w_t2 : (words1.drop 24).all (fun c => isCode c || c.before args0 about1) = true := by decide +kernel
theorem w_tables : (allAtoms (Jvm.Cond.code x code maxLocals ret :: tables_1)).before args0 about1 = true := by
  rw [allAtoms_all]
  show words1.all (fun c => c.before args0 about1) = true
  refine all_split ?_ w_codes
  rw [← List.take_append_drop 24 words1, List.all_append, w_t1, w_t2]
  rfl
set_option maxRecDepth 65536 in
theorem w_case : (Jvm.Cond.and given_1 narrow_1).before args0 about1 = true := by decide +kernel
theorem w_applies : (headSpec (Jvm.Cond.code x code maxLocals ret :: tables_1) room_1).applies x e0.platform about1 = true :=
  (Spec.applies_iff w_frames).mpr ⟨w_running, w_runnable, w_alone, w_named, w_hears, w_ripe, w_room, w_tables⟩
theorem atStart : AtStart classFile x code maxLocals ret World_1 tables_1 room_1 Calls_1 rest_1 Pre_1 launch0 p0 e0 about1 theMethod args0 below0 :=
  ⟨lists_1, trivial, launch0.admits_env _ _ _, launch0.least_env, fairChoices_fair.cas, fairChoices_fair.clock, w_frames, w_args, w_heap, w_applies, trivial, trivial, w_case⟩
end start1
theorem witness_1 : WitnessClaimed_1 := ⟨start1.p0, start1.e0, start1.about1, start1.theMethod, start1.args0, start1.below0, start1.atStart⟩
end Jvm.Pilot.@@N@@
