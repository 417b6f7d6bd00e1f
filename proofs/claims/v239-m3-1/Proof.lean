import JvmDerived
import JvmDerived.Pilot.@@N@@Statement
import JvmDerived.Pilot.@@N@@Code
set_option linter.unusedVariables false
set_option linter.unusedSimpArgs false
@@BLOCK:NumsL.lean.txt@@
namespace Jvm.OwnKit
open Sem ClassFile Op Lib Jvm.Stand Jvm.Free Jvm.LawKit Jvm.RoadKit
def Go (tb : Tables) (e : Env) (below : List Frame) (P : State → Outcome → Prop) (S : State) : Prop := ∃ U o, Steps tb e below S U ∧ U.status = .running ∧ Ended U below o ∧ P U o
theorem Go.s {tb : Tables} {e : Env} {below : List Frame} {P : State → Outcome → Prop} {S S' : State} (k : ∀ {t : State}, Steps tb e below S' t → Steps tb e below S t) (f : Go tb e below P S') : Go tb e below P S := by
  obtain ⟨U, o, h1, h2⟩ := f
  exact ⟨U, o, k h1, h2⟩
theorem Go.cast {tb : Tables} {e : Env} {below : List Frame} {P : State → Outcome → Prop} {T : State} {g g' : JFrame} (q : g = g') (f : Go tb e below P (T.setTop g')) : Go tb e below P (T.setTop g) := q ▸ f
/-- the contract of a body, at one heap and one list of arguments -/
def Con (l : Launch) (Z : State) (y : MethodName) (bytes : ByteArray) (maxL : Nat) (ret : Option FieldType) (ws : List Jvm.Cond) (rm : Room) (as' : Array Value) (h : Heap) (Q : Option Value → Heap → List Loc → Prop) : Prop :=
  MetFree l y (head1 (Cond.code y bytes maxL ret :: ws) rm) (fun a U => a = as' ∧ Z.Warmed39 U.vm ∧ U.heap = h) (fun _ _ _ _ _ => True) (fun _ U o U' => ∃ v L, o = .returned v ∧ Q v U'.heap L ∧ FrameEnd U o U' L rm.cells rm.slots)
theorem Con.intro {l : Launch} {Z : State} {y : MethodName} {bytes : ByteArray} {maxL : Nat} {ret : Option FieldType} {ws : List Jvm.Cond} {rm : Room} {as' : Array Value} {h : Heap} {Q : Option Value → Heap → List Loc → Prop} (hpn : plainFor y = true)
    (body : ∀ (p : Program) (e : Env) (s : State) (m : MethodId) (below : List Frame) (meth : Method) (c : Code) (s₁ : State) (P : State → Outcome → Prop), p.tables.exec = Jvm.exec → c.code = bytes → c.maxLocals = maxL → s.vm.findClass y.cls = some m.cls → meth.name = y.name → meth.sig.returnType = ret → meth.locks = false → Z.Warmed39 s.vm →
      Stand p l e rm s m as' below meth c s₁ [] 0 0 → s₁.heap = h → (∀ U v L, Q v U.heap L → FrameEnd s (.returned v) U L rm.cells rm.slots → P U (.returned v)) → Go p.tables e below P (s₁.setTop (entryFrame m as' maxL))) :
    Con l Z y bytes maxL ret ws rm as' h Q := by
  refine MetFree.of_bodySF hpn hisR ?_
  intro p e s m args below meth c s₁ Bd hml0 hP hK
  obtain ⟨rfl, hZ, hh⟩ := hP
  exact body p e s m below meth c s₁ _ Bd.exec Bd.bytes hml0 (findClass_of_methodNamed Bd.named) (name_of_methodNamed Bd.named Bd.method).1 Bd.returns (BodyLoose.notSynchronized Bd) hZ (Stand.of_body Bd) (by rw [← hh, Bd.state]; rfl) fun U v L q f => ⟨v, L, rfl, q, f⟩
theorem Con.mono {l : Launch} {Z : State} {y : MethodName} {bytes : ByteArray} {maxL : Nat} {ret : Option FieldType} {ws : List Jvm.Cond} {rm : Room} {as' : Array Value} {h : Heap} {Q Q' : Option Value → Heap → List Loc → Prop} (C : Con l Z y bytes maxL ret ws rm as' h Q) (q : ∀ v h L, Q v h L → Q' v h L) : Con l Z y bytes maxL ret ws rm as' h Q' := by
  intro p e ha hc hk s m args below hf happ hP hK
  obtain ⟨n, o, h1, h2, h3, v, L, h4, h5, h6⟩ := C p e ha hc hk s m args below hf happ hP hK
  exact ⟨n, o, h1, h2, h3, v, L, h4, q _ _ _ h5, h6⟩
def ConH (l : Launch) (Z : State) (y : MethodName) (bytes : ByteArray) (maxL : Nat) (ret : Option FieldType) (hs : List (Nat × Nat × Nat × Nat)) (ws : List Jvm.Cond) (rm : Room) (as' : Array Value) (h : Heap) (Q : Option Value → Heap → List Loc → Prop) : Prop :=
  MetFree l y (head1 (Cond.codeWith y bytes maxL ret hs :: ws) rm) (fun a U => a = as' ∧ Z.Warmed39 U.vm ∧ U.heap = h) (fun _ _ _ _ _ => True) (fun _ U o U' => ∃ v L, o = .returned v ∧ Q v U'.heap L ∧ FrameEnd U o U' L rm.cells rm.slots)
theorem ConH.intro {l : Launch} {Z : State} {y : MethodName} {bytes : ByteArray} {maxL : Nat} {ret : Option FieldType} {hs : List (Nat × Nat × Nat × Nat)} {ws : List Jvm.Cond} {rm : Room} {as' : Array Value} {h : Heap} {Q : Option Value → Heap → List Loc → Prop} (hpn : plainFor y = true)
    (body : ∀ (p : Program) (e : Env) (s : State) (m : MethodId) (below : List Frame) (meth : Method) (c : Code) (s₁ : State) (P : State → Outcome → Prop), p.tables.exec = Jvm.exec → c.code = bytes → c.maxLocals = maxL → s.vm.findClass y.cls = some m.cls → meth.name = y.name → meth.sig.returnType = ret → meth.locks = false → Z.Warmed39 s.vm →
      Stand p l e rm s m as' below meth c s₁ [] 0 0 → s₁.heap = h → (∀ U v L, Q v U.heap L → FrameEnd s (.returned v) U L rm.cells rm.slots → P U (.returned v)) → Go p.tables e below P (s₁.setTop (entryFrame m as' maxL))) :
    ConH l Z y bytes maxL ret hs ws rm as' h Q := by
  refine MetFree.of_bodySF hpn hisWith ?_
  intro p e s m args below meth c s₁ Bd hml0 hP hK
  obtain ⟨rfl, hZ, hh⟩ := hP
  exact body p e s m below meth c s₁ _ Bd.exec Bd.bytes hml0 (findClass_of_methodNamed Bd.named) (name_of_methodNamed Bd.named Bd.method).1 Bd.returns (BodyLoose.notSynchronized Bd) hZ (Stand.of_body Bd) (by rw [← hh, Bd.state]; rfl) fun U v L q f => ⟨v, L, rfl, q, f⟩
section Walk
variable {p : Program} {l : Launch} {e : Env} {R : Room} {s : State} {m : MethodId} {args : Array Value} {below : List Frame} {meth : Method} {c : Code} {T : State} {locs : List Loc} {cells slots : Nat} {P : State → Outcome → Prop} {Z : State} {a0 : Array Value} {h : Heap}
theorem Go.ret (X : Stand p l e R s m args below meth c T locs cells slots) (hx : p.tables.exec = Jvm.exec) (hlk : meth.locks = false) {pc : Nat} {Ls : Array Slot} {w : Value} {t : FieldType} {i : Instr} {rest : List Value} (hret : meth.sig.returnType = some t) (hn : narrow t w = w)
    (hi : (i = .ireturn ∧ (t = .int ∨ t = .boolean ∨ t = .byte ∨ t = .char ∨ t = .short) ∧ ∃ z, w = .int z) ∨ (i = .lreturn ∧ t = .long ∧ ∃ z, w = .long z) ∨ (i = .dreturn ∧ t = .double ∧ ∃ z, w = .double z) ∨ (i = .freturn ∧ t = .float ∧ ∃ z, w = .float z) ∨ (i = .areturn ∧ t.isReference = true ∧ w.isRef = true))
    (hd : decode c.code pc = .ok (i, 1)) (hP : ∀ U : State, U.heap = T.heap → FrameEnd s (.returned (some w)) U locs cells slots → P U (.returned (some w))) : Go p.tables e below P (T.setTop (mkF m pc Ls (w :: rest))) := by
  obtain ⟨fs, hr, hrun, hended, hW, hsame⟩ := X.leave (v := some w) (fun h => by rw [hret] at h; cases h) hlk
  exact ⟨_, _, retOut X hx hret hn hi hd hr, hrun, hended, hP _ rfl ⟨⟨_, rfl⟩, hW, hsame⟩⟩
theorem Go.retI (X : Stand p l e R s m args below meth c T locs cells slots) (hx : p.tables.exec = Jvm.exec) (hlk : meth.locks = false) {pc : Nat} {Ls : Array Slot} {z : Int32} {rest : List Value} (hret : meth.sig.returnType = some .int)
    (hd : decode c.code pc = .ok (.ireturn, 1)) (hP : ∀ U : State, U.heap = T.heap → FrameEnd s (.returned (some (.int z))) U locs cells slots → P U (.returned (some (.int z)))) : Go p.tables e below P (T.setTop (mkF m pc Ls (.int z :: rest))) :=
  Go.ret X hx hlk hret rfl (Or.inl ⟨rfl, Or.inl rfl, _, rfl⟩) hd hP
theorem Go.retZ (X : Stand p l e R s m args below meth c T locs cells slots) (hx : p.tables.exec = Jvm.exec) (hlk : meth.locks = false) {pc : Nat} {Ls : Array Slot} {z : Int32} {rest : List Value} (hret : meth.sig.returnType = some .boolean) (hz : z = 0 ∨ z = 1)
    (hd : decode c.code pc = .ok (.ireturn, 1)) (hP : ∀ U : State, U.heap = T.heap → FrameEnd s (.returned (some (.int z))) U locs cells slots → P U (.returned (some (.int z)))) : Go p.tables e below P (T.setTop (mkF m pc Ls (.int z :: rest))) :=
  Go.ret X hx hlk hret (by rcases hz with rfl | rfl <;> rfl) (Or.inl ⟨rfl, Or.inr (Or.inl rfl), _, rfl⟩) hd hP
theorem Go.retJ (X : Stand p l e R s m args below meth c T locs cells slots) (hx : p.tables.exec = Jvm.exec) (hlk : meth.locks = false) {pc : Nat} {Ls : Array Slot} {z : Int64} {rest : List Value} (hret : meth.sig.returnType = some .long)
    (hd : decode c.code pc = .ok (.lreturn, 1)) (hP : ∀ U : State, U.heap = T.heap → FrameEnd s (.returned (some (.long z))) U locs cells slots → P U (.returned (some (.long z)))) : Go p.tables e below P (T.setTop (mkF m pc Ls (.long z :: rest))) :=
  Go.ret X hx hlk hret rfl (Or.inr (Or.inl ⟨rfl, rfl, _, rfl⟩)) hd hP
theorem Go.retR (X : Stand p l e R s m args below meth c T locs cells slots) (hx : p.tables.exec = Jvm.exec) (hlk : meth.locks = false) {pc : Nat} {Ls : Array Slot} {w : Value} {t : FieldType} {rest : List Value} (hret : meth.sig.returnType = some t) (ht : t.isReference = true) (hw : w.isRef = true)
    (hd : decode c.code pc = .ok (.areturn, 1)) (hP : ∀ U : State, U.heap = T.heap → FrameEnd s (.returned (some w)) U locs cells slots → P U (.returned (some w))) : Go p.tables e below P (T.setTop (mkF m pc Ls (w :: rest))) :=
  Go.ret X hx hlk hret (by rcases ref_cases hw with rfl | ⟨z, rfl⟩ <;> cases t <;> first | rfl | (cases ht)) (Or.inr (Or.inr (Or.inr (Or.inr ⟨rfl, ht, hw⟩)))) hd hP
theorem Go.retV (X : Stand p l e R s m args below meth c T locs cells slots) (hx : p.tables.exec = Jvm.exec) (hlk : meth.locks = false) {pc : Nat} {Ls : Array Slot} (hret : meth.sig.returnType = none)
    (hd : decode c.code pc = .ok (.return_, 1)) (hP : ∀ U : State, U.heap = T.heap → FrameEnd s (.returned none) U locs cells slots → P U (.returned none)) : Go p.tables e below P (T.setTop (mkF m pc Ls [])) := by
  obtain ⟨fs, hr, hrun, hended, hW, hsame⟩ := X.leave (v := none) (fun _ => rfl) hlk
  exact ⟨_, _, X.returnOut hx hret hd hr, hrun, hended, hP _ rfl ⟨⟨_, rfl⟩, hW, hsame⟩⟩
theorem Con.static {y : MethodName} {bytes : ByteArray} {maxL : Nat} {ret : Option FieldType} {rm : Room} {as' : Array Value} {Q : Option Value → Heap → List Loc → Prop} (C : Con l Z y bytes maxL ret [] rm as' h Q)
    (X : Stand p l e R s m args below meth c T locs cells slots) (hx : p.tables.exec = Jvm.exec) (hZ : Z.Warmed39 s.vm) {own : String} {index W : Nat} (hown : s.vm.findClass own = some m.cls)
    (wl : (Cond.methodLink own index y).before a0 Z = true) (wst : (Cond.static y).before a0 Z = true) (wz : (Cond.initialized y.cls).before a0 Z = true) (wc : (Cond.code y bytes maxL ret).before a0 Z = true)
    (hy : y.cls ≠ "java/lang/invoke/MethodHandle" ∧ y.cls ≠ "java/lang/invoke/VarHandle") (hf : rm.frames + 1 ≤ R.frames) (hl : W + (maxL + 11) + rm.locals ≤ R.locals) (hce : cells + rm.cells ≤ R.cells) (hsl : slots + rm.slots ≤ R.slots) (eT : T.heap = h)
    {g : JFrame} (hg : g.method = m) (hsize : g.locals.size = c.maxLocals) {argsL rest : List Value} (has : argsL.toArray = as') (hlen : ∀ sig, parseMethodDescriptor y.desc = some sig → argsL.length = sig.parameters.length)
    (hstack : g.stack = argsL.reverse ++ rest) (hW : 2 * g.monitorRoom + (rest.map fun v => v.category).sum ≤ W) (hdg : decode c.code g.pc = .ok (.invokestatic index, 3)) :
    ∃ (v : Option Value) (T' : State) (L : List Loc), Stand p l e R s m args below meth c T' (locs ++ L) (cells + rm.cells) (slots + rm.slots) ∧ Q v T'.heap L ∧
      ∀ {t : State}, Steps p.tables e below (T'.setTop { g with pc := g.pc + 3, stack := v.toList ++ rest }) t → Steps p.tables e below (T.setTop g) t := by
  obtain ⟨v, vm₁, ⟨T', L', k', n'⟩, -, X', ⟨L, hQ, e1, e2, e3⟩, st⟩ := Jvm.LawKit.callS X hx hown (mvT hZ wl) (mvT hZ wst) (mvT hZ wz) (mvT hZ wc) hy (backOf (W := W) C hZ wc wz hf hl) hg hsize hlen hstack hW hdg (fun _ _ => ⟨has, eT, hce, hsl⟩)
  dsimp only [Pt.U, Pt.locs, Pt.cells, Pt.slots] at X' e1 e2 e3 st hQ
  subst e1 e2 e3
  exact ⟨v, T', L, X', hQ, fun {t} k => st t k⟩
theorem Con.special {y : MethodName} {bytes : ByteArray} {maxL : Nat} {rm : Room} {as' : Array Value} {Q : Option Value → Heap → List Loc → Prop} (C : Con l Z y bytes maxL none [] rm as' h Q) (hy1 : y.name = "<init>")
    (X : Stand p l e R s m args below meth c T locs cells slots) (hx : p.tables.exec = Jvm.exec) (hZ : Z.Warmed39 s.vm) {own : String} {index W : Nat} (hown : s.vm.findClass own = some m.cls)
    (wl : (Cond.methodLink own index y).before a0 Z = true) (wi : (Cond.instanceMethod y).before a0 Z = true) (wz : (Cond.initialized y.cls).before a0 Z = true) (wc : (Cond.code y bytes maxL none).before a0 Z = true)
    (hy : y.cls ≠ "java/lang/invoke/MethodHandle" ∧ y.cls ≠ "java/lang/invoke/VarHandle") (hf : rm.frames + 1 ≤ R.frames) (hl : W + (maxL + 11) + rm.locals ≤ R.locals) (hce : cells + rm.cells ≤ R.cells) (hsl : slots + rm.slots ≤ R.slots) (eT : T.heap = h)
    {g : JFrame} (hg : g.method = m) (hsize : g.locals.size = c.maxLocals) {a : Addr} {argsL rest : List Value} (has : (Value.ref a :: argsL).toArray = as') (hlen : ∀ sig, parseMethodDescriptor y.desc = some sig → argsL.length = sig.parameters.length)
    (hstack : g.stack = argsL.reverse ++ .ref a :: rest) (hW : 2 * g.monitorRoom + (rest.map fun v => v.category).sum ≤ W) (hdg : decode c.code g.pc = .ok (.invokespecial index, 3)) :
    ∃ (v : Option Value) (T' : State) (L : List Loc), Stand p l e R s m args below meth c T' (locs ++ L) (cells + rm.cells) (slots + rm.slots) ∧ Q v T'.heap L ∧
      ∀ {t : State}, Steps p.tables e below (T'.setTop { g with pc := g.pc + 3, stack := v.toList ++ rest }) t → Steps p.tables e below (T.setTop g) t := by
  obtain ⟨v, vm₁, ⟨T', L', k', n'⟩, -, X', ⟨L, hQ, e1, e2, e3⟩, st⟩ := X.specialBack hx hy1 hown (mvT hZ wl) (mvT hZ wi) (mvT hZ wc) hy (backOf (W := W) C hZ wc wz hf hl) hg hsize (Steps.refl _) hlen hstack hW hdg (fun _ _ => ⟨has, eT, hce, hsl⟩)
  dsimp only [Pt.U, Pt.locs, Pt.cells, Pt.slots] at X' e1 e2 e3 st hQ
  subst e1 e2 e3
  exact ⟨v, T', L, X', hQ, fun {t} k => st.trans k⟩
theorem ConH.special {y : MethodName} {bytes : ByteArray} {maxL : Nat} {rm : Room} {as' : Array Value} {Q : Option Value → Heap → List Loc → Prop} {hs : List (Nat × Nat × Nat × Nat)} (C : ConH l Z y bytes maxL none hs [] rm as' h Q) (hy1 : y.name = "<init>")
    (X : Stand p l e R s m args below meth c T locs cells slots) (hx : p.tables.exec = Jvm.exec) (hZ : Z.Warmed39 s.vm) {own : String} {index W : Nat} (hown : s.vm.findClass own = some m.cls)
    (wl : (Cond.methodLink own index y).before a0 Z = true) (wi : (Cond.instanceMethod y).before a0 Z = true) (wz : (Cond.initialized y.cls).before a0 Z = true) (wc : (Cond.codeWith y bytes maxL none hs).before a0 Z = true)
    (hy : y.cls ≠ "java/lang/invoke/MethodHandle" ∧ y.cls ≠ "java/lang/invoke/VarHandle") (hf : rm.frames + 1 ≤ R.frames) (hl : W + (maxL + 11) + rm.locals ≤ R.locals) (hce : cells + rm.cells ≤ R.cells) (hsl : slots + rm.slots ≤ R.slots) (eT : T.heap = h)
    {g : JFrame} (hg : g.method = m) (hsize : g.locals.size = c.maxLocals) {a : Addr} {argsL rest : List Value} (has : (Value.ref a :: argsL).toArray = as') (hlen : ∀ sig, parseMethodDescriptor y.desc = some sig → argsL.length = sig.parameters.length)
    (hstack : g.stack = argsL.reverse ++ .ref a :: rest) (hW : 2 * g.monitorRoom + (rest.map fun v => v.category).sum ≤ W) (hdg : decode c.code g.pc = .ok (.invokespecial index, 3)) :
    ∃ (v : Option Value) (T' : State) (L : List Loc), Stand p l e R s m args below meth c T' (locs ++ L) (cells + rm.cells) (slots + rm.slots) ∧ Q v T'.heap L ∧
      ∀ {t : State}, Steps p.tables e below (T'.setTop { g with pc := g.pc + 3, stack := v.toList ++ rest }) t → Steps p.tables e below (T.setTop g) t := by
  obtain ⟨v, vm₁, ⟨T', L', k', n'⟩, -, X', ⟨L, hQ, e1, e2, e3⟩, st⟩ := X.specialBackH hx hy1 hown (mvT hZ wl) (mvT hZ wi) (mvT hZ wc) hy (backOfWith (W := W) C hZ wc wz hf hl) hg hsize (Steps.refl _) hlen hstack hW hdg (fun _ _ => ⟨has, eT, hce, hsl⟩)
  dsimp only [Pt.U, Pt.locs, Pt.cells, Pt.slots] at X' e1 e2 e3 st hQ
  subst e1 e2 e3
  exact ⟨v, T', L, X', hQ, fun {t} k => st.trans k⟩
theorem Con.virtual {y : MethodName} {bytes : ByteArray} {maxL : Nat} {ret : Option FieldType} {rm : Room} {as' : Array Value} {Q : Option Value → Heap → List Loc → Prop} (K : Con l Z y bytes maxL ret [] rm as' h Q)
    (X : Stand p l e R s m args below meth c T locs cells slots) (hx : p.tables.exec = Jvm.exec) (hZ : Z.Warmed39 s.vm) {own C : String} {index W : Nat} (hown : s.vm.findClass own = some m.cls)
    (wl : (Cond.methodLink own index y).before a0 Z = true) (wd : (Cond.declares y).before a0 Z = true) (wsel : (Cond.selects C y y).before a0 Z = true) (wi : (Cond.instanceMethod y).before a0 Z = true) (wz : (Cond.initialized y.cls).before a0 Z = true) (wc : (Cond.code y bytes maxL ret).before a0 Z = true)
    (hy : y.cls ≠ "java/lang/invoke/MethodHandle" ∧ y.cls ≠ "java/lang/invoke/VarHandle") (hf : rm.frames + 1 ≤ R.frames) (hl : W + (maxL + 11) + rm.locals ≤ R.locals) (hce : cells + rm.cells ≤ R.cells) (hsl : slots + rm.slots ≤ R.slots) (eT : T.heap = h)
    {g : JFrame} (hg : g.method = m) (hsize : g.locals.size = c.maxLocals) {a : Addr} (E : Exa Z h a C) {argsL rest : List Value} (has : (Value.ref a :: argsL).toArray = as') (hlen : ∀ sig, parseMethodDescriptor y.desc = some sig → argsL.length = sig.parameters.length)
    (hstack : g.stack = argsL.reverse ++ .ref a :: rest) (hW : 2 * g.monitorRoom + (rest.map fun v => v.category).sum ≤ W) (hdg : decode c.code g.pc = .ok (.invokevirtual index, 3)) :
    ∃ (v : Option Value) (T' : State) (L : List Loc), Stand p l e R s m args below meth c T' (locs ++ L) (cells + rm.cells) (slots + rm.slots) ∧ Q v T'.heap L ∧
      ∀ {t : State}, Steps p.tables e below (T'.setTop { g with pc := g.pc + 3, stack := v.toList ++ rest }) t → Steps p.tables e below (T.setTop g) t := by
  obtain ⟨cq, kq, qa, qb, qc⟩ := isOf hZ eT E
  obtain ⟨v, vm₁, ⟨T', L', k', n'⟩, -, X', ⟨L, hQ, e1, e2, e3⟩, st⟩ := X.virtualBack hx hown (mvT hZ wl) (mvT hZ wd) (notFace_of_selects (args := #[]) (mvT hZ wsel)) (mvT hZ wsel) (mvT hZ wi) hy (backOf (W := W) K hZ wc wz hf hl) qa qc hg hsize (Steps.refl _) hlen hstack hW hdg (fun _ _ => ⟨has, eT, hce, hsl⟩)
  dsimp only [Pt.U, Pt.locs, Pt.cells, Pt.slots] at X' e1 e2 e3 st hQ
  subst e1 e2 e3
  exact ⟨v, T', L, X', hQ, fun {t} k => st.trans k⟩
theorem Con.priv {y : MethodName} {bytes : ByteArray} {maxL : Nat} {ret : Option FieldType} {rm : Room} {as' : Array Value} {Q : Option Value → Heap → List Loc → Prop} (K : Con l Z y bytes maxL ret [] rm as' h Q)
    (X : Stand p l e R s m args below meth c T locs cells slots) (hx : p.tables.exec = Jvm.exec) (hZ : Z.Warmed39 s.vm) {own C : String} {index W kk : Nat} (hown : s.vm.findClass own = some m.cls)
    (wl : (Cond.methodLink own index y).before a0 Z = true) (wn : (Cond.instantiable y.cls kk).before a0 Z = true) (wp : (Cond.privateMethod y).before a0 Z = true) (wi : (Cond.instanceMethod y).before a0 Z = true) (wz : (Cond.initialized y.cls).before a0 Z = true) (wc : (Cond.code y bytes maxL ret).before a0 Z = true)
    (hy : y.cls ≠ "java/lang/invoke/MethodHandle" ∧ y.cls ≠ "java/lang/invoke/VarHandle") (hf : rm.frames + 1 ≤ R.frames) (hl : W + (maxL + 11) + rm.locals ≤ R.locals) (hce : cells + rm.cells ≤ R.cells) (hsl : slots + rm.slots ≤ R.slots) (eT : T.heap = h)
    {g : JFrame} (hg : g.method = m) (hsize : g.locals.size = c.maxLocals) {a : Addr} (E : Exa Z h a C) {argsL rest : List Value} (has : (Value.ref a :: argsL).toArray = as') (hlen : ∀ sig, parseMethodDescriptor y.desc = some sig → argsL.length = sig.parameters.length)
    (hstack : g.stack = argsL.reverse ++ .ref a :: rest) (hW : 2 * g.monitorRoom + (rest.map fun v => v.category).sum ≤ W) (hdg : decode c.code g.pc = .ok (.invokevirtual index, 3)) :
    ∃ (v : Option Value) (T' : State) (L : List Loc), Stand p l e R s m args below meth c T' (locs ++ L) (cells + rm.cells) (slots + rm.slots) ∧ Q v T'.heap L ∧
      ∀ {t : State}, Steps p.tables e below (T'.setTop { g with pc := g.pc + 3, stack := v.toList ++ rest }) t → Steps p.tables e below (T.setTop g) t := by
  have hpa : s.PrivateAt y := Cond.privateMethod_at (mvP hZ wp (args := args))
  have win : (Cond.instanceMethod y).before args s = true := mvT hZ wi
  have wnn : (Cond.instantiable y.cls kk).before args s = true := mvT hZ wn
  obtain ⟨ci, ki, i1, i2, i3, i4, -⟩ := Cond.instantiable_spec wnn
  have hni : ki.isInterface = false := (Bool.or_eq_false_iff.mp i4).1
  obtain ⟨cl, hcl, hob⟩ := E.cell
  obtain ⟨v, vm₁, ⟨T', L', k', n'⟩, -, X', ⟨L, hQ, e1, e2, e3⟩, st⟩ := X.privateBack hx hown (mvT hZ wl) win (selects_self_of_private i1 i2 hni hpa win hy) hpa (mvT hZ wc) hy (backOf (W := W) K hZ wc wz hf hl) hg hsize (Steps.refl _) (by rw [eT]; exact hcl) hob hlen hstack hW hdg (fun _ _ => ⟨has, eT, hce, hsl⟩)
  dsimp only [Pt.U, Pt.locs, Pt.cells, Pt.slots] at X' e1 e2 e3 st hQ
  subst e1 e2 e3
  exact ⟨v, T', L, X', hQ, fun {t} k => st.trans k⟩
theorem Con.virtualUp {x z : MethodName} {bytes : ByteArray} {maxL : Nat} {ret : Option FieldType} {rm : Room} {as' : Array Value} {Q : Option Value → Heap → List Loc → Prop} (K : Con l Z z bytes maxL ret [] rm as' h Q)
    (X : Stand p l e R s m args below meth c T locs cells slots) (hx : p.tables.exec = Jvm.exec) (hZ : Z.Warmed39 s.vm) {own C owner : String} {index W : Nat} (hown : s.vm.findClass own = some m.cls)
    (wl : (Cond.methodLink own index x).before a0 Z = true) (wsm : (Cond.sameMethod x.cls owner x.name x.desc).before a0 Z = true) (wd : (Cond.declares ⟨owner, x.name, x.desc⟩).before a0 Z = true) (wsel : (Cond.selects C x z).before a0 Z = true) (wi : (Cond.instanceMethod z).before a0 Z = true) (wz : (Cond.initialized z.cls).before a0 Z = true) (wc : (Cond.code z bytes maxL ret).before a0 Z = true)
    (ho : owner ≠ "java/lang/invoke/MethodHandle" ∧ owner ≠ "java/lang/invoke/VarHandle") (hf : rm.frames + 1 ≤ R.frames) (hl : W + (maxL + 11) + rm.locals ≤ R.locals) (hce : cells + rm.cells ≤ R.cells) (hsl : slots + rm.slots ≤ R.slots) (eT : T.heap = h)
    {g : JFrame} (hg : g.method = m) (hsize : g.locals.size = c.maxLocals) {a : Addr} (E : Exa Z h a C) {argsL rest : List Value} (has : (Value.ref a :: argsL).toArray = as') (hlen : ∀ sig, parseMethodDescriptor x.desc = some sig → argsL.length = sig.parameters.length)
    (hstack : g.stack = argsL.reverse ++ .ref a :: rest) (hW : 2 * g.monitorRoom + (rest.map fun v => v.category).sum ≤ W) (hdg : decode c.code g.pc = .ok (.invokevirtual index, 3)) :
    ∃ (v : Option Value) (T' : State) (L : List Loc), Stand p l e R s m args below meth c T' (locs ++ L) (cells + rm.cells) (slots + rm.slots) ∧ Q v T'.heap L ∧
      ∀ {t : State}, Steps p.tables e below (T'.setTop { g with pc := g.pc + 3, stack := v.toList ++ rest }) t → Steps p.tables e below (T.setTop g) t := by
  obtain ⟨cq, kq, qa, qb, qc⟩ := isOf hZ eT E
  obtain ⟨v, vm₁, ⟨T', L', k', n'⟩, -, X', ⟨L, hQ, e1, e2, e3⟩, st⟩ := X.virtualBackUp hx hown (mvT hZ wl) (mvT hZ wsm) (mvT hZ wd) ho (mvT hZ wsel) (mvT hZ wi) (backOf (W := W) K hZ wc wz hf hl) qa qc hg hsize (Steps.refl _) hlen hstack hW hdg (fun _ _ => ⟨has, eT, hce, hsl⟩)
  dsimp only [Pt.U, Pt.locs, Pt.cells, Pt.slots] at X' e1 e2 e3 st hQ
  subst e1 e2 e3
  exact ⟨v, T', L, X', hQ, fun {t} k => st.trans k⟩
/-- the cell of an object is one that the model knows -/
def Kn (h : Heap) (a : Addr) : Prop := ∃ cell : Cell, h[a]? = some cell ∧ cell.vm ≠ .unknown
theorem Kn.of_new {h' : Heap} {a : Addr} (u : ∃ cell : Cell, h'[a]? = some cell ∧ cell.vm = .none ∧ cell.monitor = {}) : Kn h' a := by obtain ⟨c, h1, h2, -⟩ := u; exact ⟨c, h1, by rw [h2]; simp⟩
theorem Kn.ext {h h' : Heap} {a : Addr} (F : Kn h a) (E : Ext h h') : Kn h' a := by obtain ⟨c, h1, h2⟩ := F; exact ⟨c, E.2 _ _ h1, h2⟩
theorem Kn.keep {h h' : Heap} {a : Addr} {ws : List Addr} (F : Kn h a) (K : Keep h h' ws) : Kn h' a := by
  obtain ⟨c, h1, h2⟩ := F; obtain ⟨c', q, -, q2, -⟩ := K.2.2 a c h1; exact ⟨c', q, by rw [q2]; exact h2⟩
theorem Kn.wr {h h' : Heap} {a b : Addr} {sl : Nat} {v : Value} (F : Kn h a) (W : Wr h h' b sl v) : Kn h' a := F.keep (Keep.of_wr W)
theorem Kn.fld {h : Heap} {a : Addr} {O n d : String} {v : Value} {Z : State} (F : Fld Z h a O n d v) : Kn h a := by obtain ⟨c, _, _, _, _, h1, -, -, h4, -⟩ := F; exact ⟨c, h1, h4⟩
theorem lremM {g : JFrame} {target : State} (X : Stand p l e R s m args below meth c T locs cells slots) (hx : p.tables.exec = Jvm.exec) (hg : g.method = m) {x y : Int64} {rest : List Value} (hd : decode c.code g.pc = .ok (.lrem, 1)) (hs : g.stack = .long y :: .long x :: rest) (hy : y ≠ 0)
    (hr : Steps p.tables e below (T.setTop { g with pc := g.pc + 1, stack := .long (x % y) :: rest }) target) : Steps p.tables e below (T.setTop g) target := by
  exact XT.lrem X.here hx hg hd hs hy (by rw [lrem_mod]; exact hr)
theorem Sta.own_keep {Z : State} {h h' : Heap} {C n d : String} {v : Value} {ws : List Addr} (F : Sta Z h C n d v) (K : Keep h h' ws) (q : ∀ a ∈ ws, ∃ C', Exa Z h a C') : Sta Z h' C n d v := by
  obtain ⟨cf, i, k, f, st, cell, h1, h2, h3, h4, h5, h6, h7⟩ := F
  refine ⟨cf, i, k, f, st, cell, h1, h2, h3, h4, K.2.1 st cell h5 fun hm => ?_, h6, h7⟩
  obtain ⟨C', c2, _, g1, -, -, g4, -⟩ := q st hm
  cases h5.symm.trans g1
  rw [h6] at g4; cases g4
theorem own_nar {t : FieldType} {v : Value} (h : v.isRef = true) (ht : t.isReference = true) : narrow t v = v := by
  rcases ref_cases h with rfl | ⟨z, rfl⟩ <;> cases t <;> first | rfl | (cases ht)
theorem own_fit {t : FieldType} {v : Value} (h : v.isRef = true) (ht : t.isReference = true) : fits t v = true := by
  rcases ref_cases h with rfl | ⟨z, rfl⟩ <;> cases t <;> first | rfl | (cases ht)
theorem own_eq_int {t : Term} {k : Int32} {args : Array Value} {first s : State} {o : Option Outcome} {idx : List Nat} (h : (Cond.eq t (Term.int k)).value args first o s idx = some true) : t.eval args first o idx s = some (.int k) := by
  simp only [Cond.value, Term.eval] at h
  cases ht : t.eval args first o idx s with
  | none => simp [ht] at h
  | some x => cases x <;> simp [ht] at h ⊢; exact h
theorem pop2L {g : JFrame} {target : State} (X : Stand p l e R s m args below meth c T locs cells slots) (hx : p.tables.exec = Jvm.exec) (hg : g.method = m) {x : Int64} {rest : List Value} (hd : decode c.code g.pc = .ok (.pop2, 1)) (hs : g.stack = .long x :: rest)
    (hr : Steps p.tables e below (T.setTop { g with pc := g.pc + 1, stack := rest }) target) : Steps p.tables e below (T.setTop g) target := by
  subst hg
  jvm_step X.here [X.here.top, hx, hd, Op.pop2.wp_sem, hs, Value.category]
  exact hr
theorem own_tdiv (D k : Int) : (0 ≤ D ∧ D.tdiv k = D / k) ∨ (D < 0 ∧ D.tdiv k = -((-D) / k)) := by
  rcases Int.lt_or_le D 0 with h | h
  · refine Or.inr ⟨h, ?_⟩
    have e : D.tdiv k = -((-D).tdiv k) := by rw [Int.neg_tdiv]; omega
    rw [e, Int.tdiv_eq_ediv_of_nonneg (by omega)]
  · exact Or.inl ⟨h, Int.tdiv_eq_ediv_of_nonneg h⟩
theorem own_tmod (D k : Int) : (0 ≤ D ∧ D.tmod k = D % k) ∨ (D < 0 ∧ D.tmod k = -((-D) % k)) := by
  rcases Int.lt_or_le D 0 with h | h
  · refine Or.inr ⟨h, ?_⟩
    have e : D.tmod k = -((-D).tmod k) := by rw [Int.neg_tmod]; omega
    rw [e, Int.tmod_eq_emod_of_nonneg (by omega)]
  · exact Or.inl ⟨h, Int.tmod_eq_emod_of_nonneg h⟩
end Walk
end Jvm.OwnKit
namespace Jvm.Pilot.@@N@@
open Jvm Jvm.ClassFile Sem Op Lib Jvm.Free Jvm.Stand Jvm.LawKit Jvm.RoadKit Bundle Jvm.Pilot.@@N@@.Jvm.D Jvm.OwnKit
def own_f1 (x : Int64) (y : Int64) : Int64 := (if y < x then y else x)
theorem own_ef1 (m : MethodId) (x : Int64) (y : Int64) : entryFrame m #[(.long x), (.long y)] 4 = mkF m 0 #[.val (.long x), .second, .val (.long y), .second] [] := by
  (first | (simp [entryFrame, mkF, argsToLocals, Value.category]; done) | rfl)
theorem own_d1_0 : decode jdk_29_method_70_code 0 = .ok (.lload_n 0, 1) := by decide +kernel
theorem own_d1_1 : decode jdk_29_method_70_code 1 = .ok (.lload_n 2, 1) := by decide +kernel
theorem own_d1_2 : decode jdk_29_method_70_code 2 = .ok (.lcmp, 1) := by decide +kernel
theorem own_d1_3 : decode jdk_29_method_70_code 3 = .ok (.ifCond .gt 7, 3) := by decide +kernel
theorem own_d1_10 : decode jdk_29_method_70_code 10 = .ok (.lload_n 2, 1) := by decide +kernel
theorem own_d1_11 : decode jdk_29_method_70_code 11 = .ok (.lreturn, 1) := by decide +kernel
theorem own_d1_6 : decode jdk_29_method_70_code 6 = .ok (.lload_n 0, 1) := by decide +kernel
theorem own_d1_7 : decode jdk_29_method_70_code 7 = .ok (.goto 4, 3) := by decide +kernel
set_option maxRecDepth 65536 in
set_option maxHeartbeats 40000000 in
theorem own_rm1 (l : Launch) (Z : State) (a0 : Array Value) (hw : ∀ d ∈ tables_1, d.before a0 Z = true) (ws : List Jvm.Cond) (x : Int64) (y : Int64) (h0 : Heap) (n0 : Nat) (Z0 : n0 ≤ h0.size)   :
    Con l Z (⟨"java/lang/Math", "min", "(JJ)J"⟩ : MethodName) jdk_29_method_70_code 4 (some .long) ws ({ frames := 0, cells := 0, slots := 0, locals := 0 } : Room) #[(.long x), (.long y)] h0 (fun v h L => v = some (.long (own_f1 x y)) ∧ Fr n0 L ∧ h = h0) := by
  refine Con.intro (Jvm.Free.JP.mathPlain rfl (by decide +kernel)) ?_
  intro p e s m below meth c s₁ P hx hby hml hown hnm hret hlk hZ X0 e0 hP
  have N0 := Fr.nil n0
  have hown : s.vm.findClass "java/lang/Math" = some m.cls := hown
  refine Go.cast (own_ef1 m x y) ?_
  show Go p.tables e below P (s₁.setTop (mkF m 0 #[.val (.long x), .second, .val (.long y), .second] []))
  refine Go.s (fun kz => XT.lloadN X0.here hx rfl (hb hby own_d1_0) rfl kz) ?_
  show Go p.tables e below P (s₁.setTop (mkF m 1 #[.val (.long x), .second, .val (.long y), .second] [(.long x)]))
  refine Go.s (fun kz => XT.lloadN X0.here hx rfl (hb hby own_d1_1) rfl kz) ?_
  show Go p.tables e below P (s₁.setTop (mkF m 2 #[.val (.long x), .second, .val (.long y), .second] [(.long y), (.long x)]))
  refine Go.s (fun kz => XT.lcmp X0.here hx rfl (hb hby own_d1_2) rfl kz) ?_
  show Go p.tables e below P (s₁.setTop (mkF m 3 #[.val (.long x), .second, .val (.long y), .second] [(.int (XT.cmpL x y))]))
  by_cases hc3 : y < x
  · skip
    refine Go.s (fun kz => XS.ifYes X0.here hx rfl (pc0 := 3) (pc' := 10) rfl (hb hby own_d1_3) rfl (XT.ll_gt_t hc3) (by decide) (by decide) kz) ?_
    show Go p.tables e below P (s₁.setTop (mkF m 10 #[.val (.long x), .second, .val (.long y), .second] []))
    refine Go.s (fun kz => XT.lloadN X0.here hx rfl (hb hby own_d1_10) rfl kz) ?_
    show Go p.tables e below P (s₁.setTop (mkF m 11 #[.val (.long x), .second, .val (.long y), .second] [(.long y)]))
    exact Go.retJ X0 hx hlk hret (hb hby own_d1_11) (fun U hU hF => hP U _ _ (by rw [hU, e0]; exact ⟨congrArg some (congrArg Value.long (Eq.symm (by rw [own_f1]; rw [if_pos hc3]))), N0, rfl⟩) ⟨hF.1, hF.2.1, hF.2.2.mono (by decide) (by decide)⟩)
  · skip
    refine Go.s (fun kz => XS.ifNo X0.here hx rfl (hb hby own_d1_3) rfl (XT.ll_gt_f hc3) kz) ?_
    show Go p.tables e below P (s₁.setTop (mkF m 6 #[.val (.long x), .second, .val (.long y), .second] []))
    refine Go.s (fun kz => XT.lloadN X0.here hx rfl (hb hby own_d1_6) rfl kz) ?_
    show Go p.tables e below P (s₁.setTop (mkF m 7 #[.val (.long x), .second, .val (.long y), .second] [(.long x)]))
    refine Go.s (fun kz => XS.goto X0.here hx rfl (pc0 := 7) (pc' := 11) rfl (hb hby own_d1_7) (by decide) (by decide) kz) ?_
    show Go p.tables e below P (s₁.setTop (mkF m 11 #[.val (.long x), .second, .val (.long y), .second] [(.long x)]))
    exact Go.retJ X0 hx hlk hret (hb hby own_d1_11) (fun U hU hF => hP U _ _ (by rw [hU, e0]; exact ⟨congrArg some (congrArg Value.long (Eq.symm (by rw [own_f1]; rw [if_neg hc3]))), N0, rfl⟩) ⟨hF.1, hF.2.1, hF.2.2.mono (by decide) (by decide)⟩)
def own_f2 (x : Int64) (y : Int64) : Int64 := (if x < y then y else x)
theorem own_ef2 (m : MethodId) (x : Int64) (y : Int64) : entryFrame m #[(.long x), (.long y)] 4 = mkF m 0 #[.val (.long x), .second, .val (.long y), .second] [] := by
  (first | (simp [entryFrame, mkF, argsToLocals, Value.category]; done) | rfl)
theorem own_d2_0 : decode jdk_29_method_66_code 0 = .ok (.lload_n 0, 1) := by decide +kernel
theorem own_d2_1 : decode jdk_29_method_66_code 1 = .ok (.lload_n 2, 1) := by decide +kernel
theorem own_d2_2 : decode jdk_29_method_66_code 2 = .ok (.lcmp, 1) := by decide +kernel
theorem own_d2_3 : decode jdk_29_method_66_code 3 = .ok (.ifCond .lt 7, 3) := by decide +kernel
theorem own_d2_10 : decode jdk_29_method_66_code 10 = .ok (.lload_n 2, 1) := by decide +kernel
theorem own_d2_11 : decode jdk_29_method_66_code 11 = .ok (.lreturn, 1) := by decide +kernel
theorem own_d2_6 : decode jdk_29_method_66_code 6 = .ok (.lload_n 0, 1) := by decide +kernel
theorem own_d2_7 : decode jdk_29_method_66_code 7 = .ok (.goto 4, 3) := by decide +kernel
set_option maxRecDepth 65536 in
set_option maxHeartbeats 40000000 in
theorem own_rm2 (l : Launch) (Z : State) (a0 : Array Value) (hw : ∀ d ∈ tables_1, d.before a0 Z = true) (ws : List Jvm.Cond) (x : Int64) (y : Int64) (h0 : Heap) (n0 : Nat) (Z0 : n0 ≤ h0.size)   :
    Con l Z (⟨"java/lang/Math", "max", "(JJ)J"⟩ : MethodName) jdk_29_method_66_code 4 (some .long) ws ({ frames := 0, cells := 0, slots := 0, locals := 0 } : Room) #[(.long x), (.long y)] h0 (fun v h L => v = some (.long (own_f2 x y)) ∧ Fr n0 L ∧ h = h0) := by
  refine Con.intro (Jvm.Free.JP.mathPlain rfl (by decide +kernel)) ?_
  intro p e s m below meth c s₁ P hx hby hml hown hnm hret hlk hZ X0 e0 hP
  have N0 := Fr.nil n0
  have hown : s.vm.findClass "java/lang/Math" = some m.cls := hown
  refine Go.cast (own_ef2 m x y) ?_
  show Go p.tables e below P (s₁.setTop (mkF m 0 #[.val (.long x), .second, .val (.long y), .second] []))
  refine Go.s (fun kz => XT.lloadN X0.here hx rfl (hb hby own_d2_0) rfl kz) ?_
  show Go p.tables e below P (s₁.setTop (mkF m 1 #[.val (.long x), .second, .val (.long y), .second] [(.long x)]))
  refine Go.s (fun kz => XT.lloadN X0.here hx rfl (hb hby own_d2_1) rfl kz) ?_
  show Go p.tables e below P (s₁.setTop (mkF m 2 #[.val (.long x), .second, .val (.long y), .second] [(.long y), (.long x)]))
  refine Go.s (fun kz => XT.lcmp X0.here hx rfl (hb hby own_d2_2) rfl kz) ?_
  show Go p.tables e below P (s₁.setTop (mkF m 3 #[.val (.long x), .second, .val (.long y), .second] [(.int (XT.cmpL x y))]))
  by_cases hc3 : x < y
  · skip
    refine Go.s (fun kz => XS.ifYes X0.here hx rfl (pc0 := 3) (pc' := 10) rfl (hb hby own_d2_3) rfl (XT.ll_lt_t hc3) (by decide) (by decide) kz) ?_
    show Go p.tables e below P (s₁.setTop (mkF m 10 #[.val (.long x), .second, .val (.long y), .second] []))
    refine Go.s (fun kz => XT.lloadN X0.here hx rfl (hb hby own_d2_10) rfl kz) ?_
    show Go p.tables e below P (s₁.setTop (mkF m 11 #[.val (.long x), .second, .val (.long y), .second] [(.long y)]))
    exact Go.retJ X0 hx hlk hret (hb hby own_d2_11) (fun U hU hF => hP U _ _ (by rw [hU, e0]; exact ⟨congrArg some (congrArg Value.long (Eq.symm (by rw [own_f2]; rw [if_pos hc3]))), N0, rfl⟩) ⟨hF.1, hF.2.1, hF.2.2.mono (by decide) (by decide)⟩)
  · skip
    refine Go.s (fun kz => XS.ifNo X0.here hx rfl (hb hby own_d2_3) rfl (XT.ll_lt_f hc3) kz) ?_
    show Go p.tables e below P (s₁.setTop (mkF m 6 #[.val (.long x), .second, .val (.long y), .second] []))
    refine Go.s (fun kz => XT.lloadN X0.here hx rfl (hb hby own_d2_6) rfl kz) ?_
    show Go p.tables e below P (s₁.setTop (mkF m 7 #[.val (.long x), .second, .val (.long y), .second] [(.long x)]))
    refine Go.s (fun kz => XS.goto X0.here hx rfl (pc0 := 7) (pc' := 11) rfl (hb hby own_d2_7) (by decide) (by decide) kz) ?_
    show Go p.tables e below P (s₁.setTop (mkF m 11 #[.val (.long x), .second, .val (.long y), .second] [(.long x)]))
    exact Go.retJ X0 hx hlk hret (hb hby own_d2_11) (fun U hU hF => hP U _ _ (by rw [hU, e0]; exact ⟨congrArg some (congrArg Value.long (Eq.symm (by rw [own_f2]; rw [if_neg hc3]))), N0, rfl⟩) ⟨hF.1, hF.2.1, hF.2.2.mono (by decide) (by decide)⟩)
def own_f3 (a : Addr) (aB : Addr) (li : Int64) (pr : Int64) : Int32 := (if ((.ref a) : Value) = (.ref aB) then (if li < pr then (0 : Int32) else (1 : Int32)) else (if pr < li then (0 : Int32) else (1 : Int32)))
theorem own_ef3 (m : MethodId) (a : Addr) (li : Int64) (pr : Int64) : entryFrame m #[(.ref a), (.long li), (.long pr)] 5 = mkF m 0 #[.val (.ref a), .val (.long li), .second, .val (.long pr), .second] [] := by
  (first | (simp [entryFrame, mkF, argsToLocals, Value.category]; done) | rfl)
theorem own_pn_0 : plainName "com/example/rotunda/rotunda/Side" = true := by first | (simp [plainName, overriddenIn]; done) | decide +kernel
theorem own_d3_0 : decode prog_47_method_5_code 0 = .ok (.aload_n 0, 1) := by decide +kernel
theorem own_d3_1 : decode prog_47_method_5_code 1 = .ok (.getstatic 3, 3) := by decide +kernel
theorem own_d3_4 : decode prog_47_method_5_code 4 = .ok (.if_acmp .ne 17, 3) := by decide +kernel
theorem own_d3_7 : decode prog_47_method_5_code 7 = .ok (.lload_n 3, 1) := by decide +kernel
theorem own_d3_8 : decode prog_47_method_5_code 8 = .ok (.lload_n 1, 1) := by decide +kernel
theorem own_d3_9 : decode prog_47_method_5_code 9 = .ok (.lcmp, 1) := by decide +kernel
theorem own_d3_10 : decode prog_47_method_5_code 10 = .ok (.ifCond .gt 7, 3) := by decide +kernel
theorem own_d3_17 : decode prog_47_method_5_code 17 = .ok (.iconst 0, 1) := by decide +kernel
theorem own_d3_18 : decode prog_47_method_5_code 18 = .ok (.goto 14, 3) := by decide +kernel
theorem own_d3_32 : decode prog_47_method_5_code 32 = .ok (.ireturn, 1) := by decide +kernel
theorem own_d3_13 : decode prog_47_method_5_code 13 = .ok (.iconst 1, 1) := by decide +kernel
theorem own_d3_14 : decode prog_47_method_5_code 14 = .ok (.goto 18, 3) := by decide +kernel
theorem own_d3_21 : decode prog_47_method_5_code 21 = .ok (.lload_n 3, 1) := by decide +kernel
theorem own_d3_22 : decode prog_47_method_5_code 22 = .ok (.lload_n 1, 1) := by decide +kernel
theorem own_d3_23 : decode prog_47_method_5_code 23 = .ok (.lcmp, 1) := by decide +kernel
theorem own_d3_24 : decode prog_47_method_5_code 24 = .ok (.ifCond .lt 7, 3) := by decide +kernel
theorem own_d3_31 : decode prog_47_method_5_code 31 = .ok (.iconst 0, 1) := by decide +kernel
theorem own_d3_27 : decode prog_47_method_5_code 27 = .ok (.iconst 1, 1) := by decide +kernel
theorem own_d3_28 : decode prog_47_method_5_code 28 = .ok (.goto 4, 3) := by decide +kernel
set_option maxRecDepth 65536 in
set_option maxHeartbeats 40000000 in
theorem own_rm3 (l : Launch) (Z : State) (a0 : Array Value) (hw : ∀ d ∈ tables_1, d.before a0 Z = true) (ws : List Jvm.Cond) (a : Addr) (li : Int64) (pr : Int64) (aB : Addr) (h0 : Heap) (n0 : Nat) (Z0 : n0 ≤ h0.size)  (S_BUY : Sta Z h0 "com/example/rotunda/rotunda/Side" "BUY" "Lcom/example/rotunda/rotunda/Side;" (.ref aB))  :
    Con l Z (⟨"com/example/rotunda/rotunda/Side", "accepts", "(JJ)Z"⟩ : MethodName) prog_47_method_5_code 5 (some .boolean) ws ({ frames := 0, cells := 0, slots := 0, locals := 0 } : Room) #[(.ref a), (.long li), (.long pr)] h0 (fun v h L => v = some (.int (own_f3 a aB li pr)) ∧ Fr n0 L ∧ h = h0) := by
  refine Con.intro (plainFor_of_name own_pn_0) ?_
  intro p e s m below meth c s₁ P hx hby hml hown hnm hret hlk hZ X0 e0 hP
  have N0 := Fr.nil n0
  have hown : s.vm.findClass "com/example/rotunda/rotunda/Side" = some m.cls := hown
  refine Go.cast (own_ef3 m a li pr) ?_
  show Go p.tables e below P (s₁.setTop (mkF m 0 #[.val (.ref a), .val (.long li), .second, .val (.long pr), .second] []))
  refine Go.s (fun kz => XS.aloadN X0.here hx rfl (hb hby own_d3_0) rfl rfl kz) ?_
  show Go p.tables e below P (s₁.setTop (mkF m 1 #[.val (.ref a), .val (.long li), .second, .val (.long pr), .second] [(.ref a)]))
  obtain ⟨T1, X1, e1, st1⟩ := getS2 X0 hx hZ hown (host := "") (Or.inl (hw _ (List.mem_of_getElem? (i := 17) rfl))) Via.refl e0 S_BUY (g := (mkF m 1 #[.val (.ref a), .val (.long li), .second, .val (.long pr), .second] [(.ref a)])) rfl (hb hby own_d3_1)
  refine Go.s (fun {t} => st1 t) ?_
  show Go p.tables e below P (T1.setTop (mkF m 4 #[.val (.ref a), .val (.long li), .second, .val (.long pr), .second] [(.ref aB), (.ref a)]))
  by_cases hc4 : ((.ref a) : Value) = (.ref aB)
  · skip
    refine Go.s (fun kz => XT.acmpNo X1.here hx rfl (hb hby own_d3_4) rfl rfl rfl (XT.aa_ne_f hc4) kz) ?_
    show Go p.tables e below P (T1.setTop (mkF m 7 #[.val (.ref a), .val (.long li), .second, .val (.long pr), .second] []))
    refine Go.s (fun kz => XT.lloadN X1.here hx rfl (hb hby own_d3_7) rfl kz) ?_
    show Go p.tables e below P (T1.setTop (mkF m 8 #[.val (.ref a), .val (.long li), .second, .val (.long pr), .second] [(.long pr)]))
    refine Go.s (fun kz => XT.lloadN X1.here hx rfl (hb hby own_d3_8) rfl kz) ?_
    show Go p.tables e below P (T1.setTop (mkF m 9 #[.val (.ref a), .val (.long li), .second, .val (.long pr), .second] [(.long li), (.long pr)]))
    refine Go.s (fun kz => XT.lcmp X1.here hx rfl (hb hby own_d3_9) rfl kz) ?_
    show Go p.tables e below P (T1.setTop (mkF m 10 #[.val (.ref a), .val (.long li), .second, .val (.long pr), .second] [(.int (XT.cmpL pr li))]))
    by_cases hc10 : li < pr
    · skip
      refine Go.s (fun kz => XS.ifYes X1.here hx rfl (pc0 := 10) (pc' := 17) rfl (hb hby own_d3_10) rfl (XT.ll_gt_t hc10) (by decide) (by decide) kz) ?_
      show Go p.tables e below P (T1.setTop (mkF m 17 #[.val (.ref a), .val (.long li), .second, .val (.long pr), .second] []))
      refine Go.s (fun kz => XS.iconst X1.here hx rfl (hb hby own_d3_17) kz) ?_
      show Go p.tables e below P (T1.setTop (mkF m 18 #[.val (.ref a), .val (.long li), .second, .val (.long pr), .second] [(.int (0 : Int32))]))
      refine Go.s (fun kz => XS.goto X1.here hx rfl (pc0 := 18) (pc' := 32) rfl (hb hby own_d3_18) (by decide) (by decide) kz) ?_
      show Go p.tables e below P (T1.setTop (mkF m 32 #[.val (.ref a), .val (.long li), .second, .val (.long pr), .second] [(.int (0 : Int32))]))
      exact Go.retZ X1 hx hlk hret (by decide) (hb hby own_d3_32) (fun U hU hF => hP U _ _ (by rw [hU, e1]; exact ⟨congrArg some (congrArg Value.int (Eq.symm (by rw [own_f3]; rw [if_pos hc4]; rw [if_pos hc10]))), N0, rfl⟩) ⟨hF.1, hF.2.1, hF.2.2.mono (by decide) (by decide)⟩)
    · skip
      refine Go.s (fun kz => XS.ifNo X1.here hx rfl (hb hby own_d3_10) rfl (XT.ll_gt_f hc10) kz) ?_
      show Go p.tables e below P (T1.setTop (mkF m 13 #[.val (.ref a), .val (.long li), .second, .val (.long pr), .second] []))
      refine Go.s (fun kz => XS.iconst X1.here hx rfl (hb hby own_d3_13) kz) ?_
      show Go p.tables e below P (T1.setTop (mkF m 14 #[.val (.ref a), .val (.long li), .second, .val (.long pr), .second] [(.int (1 : Int32))]))
      refine Go.s (fun kz => XS.goto X1.here hx rfl (pc0 := 14) (pc' := 32) rfl (hb hby own_d3_14) (by decide) (by decide) kz) ?_
      show Go p.tables e below P (T1.setTop (mkF m 32 #[.val (.ref a), .val (.long li), .second, .val (.long pr), .second] [(.int (1 : Int32))]))
      exact Go.retZ X1 hx hlk hret (by decide) (hb hby own_d3_32) (fun U hU hF => hP U _ _ (by rw [hU, e1]; exact ⟨congrArg some (congrArg Value.int (Eq.symm (by rw [own_f3]; rw [if_pos hc4]; rw [if_neg hc10]))), N0, rfl⟩) ⟨hF.1, hF.2.1, hF.2.2.mono (by decide) (by decide)⟩)
  · skip
    refine Go.s (fun kz => XT.acmpYes X1.here hx rfl (pc0 := 4) (pc' := 21) rfl (hb hby own_d3_4) rfl rfl rfl (XT.aa_ne_t hc4) (by decide) (by decide) kz) ?_
    show Go p.tables e below P (T1.setTop (mkF m 21 #[.val (.ref a), .val (.long li), .second, .val (.long pr), .second] []))
    refine Go.s (fun kz => XT.lloadN X1.here hx rfl (hb hby own_d3_21) rfl kz) ?_
    show Go p.tables e below P (T1.setTop (mkF m 22 #[.val (.ref a), .val (.long li), .second, .val (.long pr), .second] [(.long pr)]))
    refine Go.s (fun kz => XT.lloadN X1.here hx rfl (hb hby own_d3_22) rfl kz) ?_
    show Go p.tables e below P (T1.setTop (mkF m 23 #[.val (.ref a), .val (.long li), .second, .val (.long pr), .second] [(.long li), (.long pr)]))
    refine Go.s (fun kz => XT.lcmp X1.here hx rfl (hb hby own_d3_23) rfl kz) ?_
    show Go p.tables e below P (T1.setTop (mkF m 24 #[.val (.ref a), .val (.long li), .second, .val (.long pr), .second] [(.int (XT.cmpL pr li))]))
    by_cases hc24 : pr < li
    · skip
      refine Go.s (fun kz => XS.ifYes X1.here hx rfl (pc0 := 24) (pc' := 31) rfl (hb hby own_d3_24) rfl (XT.ll_lt_t hc24) (by decide) (by decide) kz) ?_
      show Go p.tables e below P (T1.setTop (mkF m 31 #[.val (.ref a), .val (.long li), .second, .val (.long pr), .second] []))
      refine Go.s (fun kz => XS.iconst X1.here hx rfl (hb hby own_d3_31) kz) ?_
      show Go p.tables e below P (T1.setTop (mkF m 32 #[.val (.ref a), .val (.long li), .second, .val (.long pr), .second] [(.int (0 : Int32))]))
      exact Go.retZ X1 hx hlk hret (by decide) (hb hby own_d3_32) (fun U hU hF => hP U _ _ (by rw [hU, e1]; exact ⟨congrArg some (congrArg Value.int (Eq.symm (by rw [own_f3]; rw [if_neg hc4]; rw [if_pos hc24]))), N0, rfl⟩) ⟨hF.1, hF.2.1, hF.2.2.mono (by decide) (by decide)⟩)
    · skip
      refine Go.s (fun kz => XS.ifNo X1.here hx rfl (hb hby own_d3_24) rfl (XT.ll_lt_f hc24) kz) ?_
      show Go p.tables e below P (T1.setTop (mkF m 27 #[.val (.ref a), .val (.long li), .second, .val (.long pr), .second] []))
      refine Go.s (fun kz => XS.iconst X1.here hx rfl (hb hby own_d3_27) kz) ?_
      show Go p.tables e below P (T1.setTop (mkF m 28 #[.val (.ref a), .val (.long li), .second, .val (.long pr), .second] [(.int (1 : Int32))]))
      refine Go.s (fun kz => XS.goto X1.here hx rfl (pc0 := 28) (pc' := 32) rfl (hb hby own_d3_28) (by decide) (by decide) kz) ?_
      show Go p.tables e below P (T1.setTop (mkF m 32 #[.val (.ref a), .val (.long li), .second, .val (.long pr), .second] [(.int (1 : Int32))]))
      exact Go.retZ X1 hx hlk hret (by decide) (hb hby own_d3_32) (fun U hU hF => hP U _ _ (by rw [hU, e1]; exact ⟨congrArg some (congrArg Value.int (Eq.symm (by rw [own_f3]; rw [if_neg hc4]; rw [if_neg hc24]))), N0, rfl⟩) ⟨hF.1, hF.2.1, hF.2.2.mono (by decide) (by decide)⟩)
theorem own_B (aB : Addr) (li pr : Int64) : own_f3 aB aB li pr = if li < pr then 0 else 1 := by rw [own_f3, if_pos rfl]
theorem own_S (aS aB : Addr) (li pr : Int64) (h : aB ≠ aS) : own_f3 aS aB li pr = if pr < li then 0 else 1 := by
  rw [own_f3, if_neg (fun q => h (by cases q; rfl))]
theorem own_irr (x : Int64) : ¬ x < x := by rw [Int64.lt_iff_toInt_lt]; omega
theorem own_r1 (aB : Addr) (x : Int64) : ¬ own_f3 aB aB x x = 0 := by rw [own_B, if_neg (own_irr x)]; decide
theorem own_r2 (aS aB : Addr) (h : aB ≠ aS) (x : Int64) : ¬ own_f3 aS aB x x = 0 := by rw [own_S aS aB x x h, if_neg (own_irr x)]; decide
theorem own_du (aS aB : Addr) (h : aB ≠ aS) (x y : Int64) : own_f3 aB aB x y = own_f3 aS aB y x := by rw [own_B, own_S aS aB y x h]
theorem own_xc (aB : Addr) (x y : Int64) (h : ¬ x = y) : ¬ own_f3 aB aB x y = own_f3 aB aB y x := by
  rw [own_B, own_B]
  have q : x.toInt ≠ y.toInt := fun z => h (Int64.toInt_inj.mp z)
  by_cases a : x < y
  · have b : ¬ y < x := by rw [Int64.lt_iff_toInt_lt] at a ⊢; omega
    rw [if_pos a, if_neg b]; decide
  · have b : y < x := by rw [Int64.lt_iff_toInt_lt] at a ⊢; omega
    rw [if_neg a, if_pos b]; decide
theorem own_lh (x y lo hi : Int64) (h1 : lo = own_f1 x y) (h2 : hi = own_f2 x y) : lo.toInt ≤ hi.toInt := by
  rw [h1, h2, own_f1, own_f2]
  split <;> split <;> rename_i a b <;> rw [Int64.lt_iff_toInt_lt] at a b <;> omega
theorem own_bm (aB : Addr) (x lo hi : Int64) (h : lo.toInt ≤ hi.toInt) (a : ¬ own_f3 aB aB x hi = 0) : ¬ own_f3 aB aB x lo = 0 := by
  rw [own_B] at a ⊢
  have b : ¬ x < hi := fun q => a (if_pos q)
  rw [if_neg (by rw [Int64.lt_iff_toInt_lt] at b ⊢; omega)]; decide
theorem own_sm (aS aB : Addr) (hn : aB ≠ aS) (x lo hi : Int64) (h : lo.toInt ≤ hi.toInt) (a : ¬ own_f3 aS aB x lo = 0) : ¬ own_f3 aS aB x hi = 0 := by
  rw [own_S _ _ _ _ hn] at a ⊢
  have b : ¬ lo < x := fun q => a (if_pos q)
  rw [if_neg (by rw [Int64.lt_iff_toInt_lt] at b ⊢; omega)]; decide
theorem own_ef0 (m : MethodId) (q0 : Int64) (q1 : Int64) (q2 : Int64) : entryFrame m #[(.long q0), (.long q1), (.long q2)] maxLocals = mkF m 0 #[.val (.long q0), .second, .val (.long q1), .second, .val (.long q2), .second, .unset, .unset, .unset, .unset, .unset, .unset, .unset, .unset, .unset, .unset, .unset, .unset, .unset, .unset] [] := by
  (first | (simp [entryFrame, mkF, argsToLocals, Value.category, maxLocals]; done) | rfl)
theorem own_pn_1 : plainName "com/example/rotunda/rotunda/SideAcceptsPinLaw" = true := by first | (simp [plainName, overriddenIn]; done) | decide +kernel
theorem own_pd_0 : parseMethodDescriptor "(JJ)J" = some ⟨[.long, .long], some .long⟩ := by decide +kernel
theorem own_pd_1 : parseMethodDescriptor "(JJ)Z" = some ⟨[.long, .long], some .boolean⟩ := by decide +kernel
set_option maxRecDepth 65536 in
set_option maxHeartbeats 40000000 in
theorem own_rm0 (l : Launch) (Z : State) (a0 : Array Value) (hw : ∀ d ∈ tables_1, d.before a0 Z = true) (ws : List Jvm.Cond) (q0 : Int64) (q1 : Int64) (q2 : Int64) (aB aS : Addr) (h0 : Heap) (n0 : Nat) (Z0 : n0 ≤ h0.size) (S_BUY : Sta Z h0 "com/example/rotunda/rotunda/Side" "BUY" "Lcom/example/rotunda/rotunda/Side;" (.ref aB)) (E_BUY : Exa Z h0 aB "com/example/rotunda/rotunda/Side") (S_SELL : Sta Z h0 "com/example/rotunda/rotunda/Side" "SELL" "Lcom/example/rotunda/rotunda/Side;" (.ref aS)) (E_SELL : Exa Z h0 aS "com/example/rotunda/rotunda/Side") (neBS : aB ≠ aS) :
    Con l Z x code maxLocals ret ws room_1 #[(.long q0), (.long q1), (.long q2)] h0 (fun v h L => v = some (.int 1) ∧ Fr n0 L) := by
  refine Con.intro (plainFor_of_name own_pn_1) ?_
  intro p e s m below meth c s₁ P hx hby hml hown hnm hret hlk hZ X0 e0 hP
  have N0 := Fr.nil n0
  have hml : c.maxLocals = 20 := hml
  have hown : s.vm.findClass "com/example/rotunda/rotunda/SideAcceptsPinLaw" = some m.cls := hown
  have hret : meth.sig.returnType = some .boolean := hret
  refine Go.cast (own_ef0 m q0 q1 q2) ?_
  show Go p.tables e below P (s₁.setTop (mkF m 0 #[.val (.long q0), .second, .val (.long q1), .second, .val (.long q2), .second, .unset, .unset, .unset, .unset, .unset, .unset, .unset, .unset, .unset, .unset, .unset, .unset, .unset, .unset] []))
  obtain ⟨T1, X1, e1, st1⟩ := getS2 X0 hx hZ hown (host := "") (Or.inl (hw _ (List.mem_of_getElem? (i := 0) rfl))) Via.refl e0 S_BUY (g := (mkF m 0 #[.val (.long q0), .second, .val (.long q1), .second, .val (.long q2), .second, .unset, .unset, .unset, .unset, .unset, .unset, .unset, .unset, .unset, .unset, .unset, .unset, .unset, .unset] [])) rfl (hb hby at_0)
  refine Go.s (fun {t} => st1 t) ?_
  show Go p.tables e below P (T1.setTop (mkF m 3 #[.val (.long q0), .second, .val (.long q1), .second, .val (.long q2), .second, .unset, .unset, .unset, .unset, .unset, .unset, .unset, .unset, .unset, .unset, .unset, .unset, .unset, .unset] [(.ref aB)]))
  refine Go.s (fun kz => XS.astore X1.here hx rfl (hb hby at_3) rfl rfl (l' := #[.val (.long q0), .second, .val (.long q1), .second, .val (.long q2), .second, .val (.ref aB), .unset, .unset, .unset, .unset, .unset, .unset, .unset, .unset, .unset, .unset, .unset, .unset, .unset]) rfl kz) ?_
  show Go p.tables e below P (T1.setTop (mkF m 5 #[.val (.long q0), .second, .val (.long q1), .second, .val (.long q2), .second, .val (.ref aB), .unset, .unset, .unset, .unset, .unset, .unset, .unset, .unset, .unset, .unset, .unset, .unset, .unset] []))
  obtain ⟨T2, X2, e2, st2⟩ := getS2 X1 hx hZ hown (host := "") (Or.inl (hw _ (List.mem_of_getElem? (i := 3) rfl))) Via.refl e1 S_SELL (g := (mkF m 5 #[.val (.long q0), .second, .val (.long q1), .second, .val (.long q2), .second, .val (.ref aB), .unset, .unset, .unset, .unset, .unset, .unset, .unset, .unset, .unset, .unset, .unset, .unset, .unset] [])) rfl (hb hby at_5)
  refine Go.s (fun {t} => st2 t) ?_
  show Go p.tables e below P (T2.setTop (mkF m 8 #[.val (.long q0), .second, .val (.long q1), .second, .val (.long q2), .second, .val (.ref aB), .unset, .unset, .unset, .unset, .unset, .unset, .unset, .unset, .unset, .unset, .unset, .unset, .unset] [(.ref aS)]))
  refine Go.s (fun kz => XS.astore X2.here hx rfl (hb hby at_8) rfl rfl (l' := #[.val (.long q0), .second, .val (.long q1), .second, .val (.long q2), .second, .val (.ref aB), .val (.ref aS), .unset, .unset, .unset, .unset, .unset, .unset, .unset, .unset, .unset, .unset, .unset, .unset]) rfl kz) ?_
  show Go p.tables e below P (T2.setTop (mkF m 10 #[.val (.long q0), .second, .val (.long q1), .second, .val (.long q2), .second, .val (.ref aB), .val (.ref aS), .unset, .unset, .unset, .unset, .unset, .unset, .unset, .unset, .unset, .unset, .unset, .unset] []))
  refine Go.s (fun kz => XT.lloadN X2.here hx rfl (hb hby at_10) rfl kz) ?_
  show Go p.tables e below P (T2.setTop (mkF m 11 #[.val (.long q0), .second, .val (.long q1), .second, .val (.long q2), .second, .val (.ref aB), .val (.ref aS), .unset, .unset, .unset, .unset, .unset, .unset, .unset, .unset, .unset, .unset, .unset, .unset] [(.long q1)]))
  refine Go.s (fun kz => XT.lload X2.here hx rfl (hb hby at_11) rfl kz) ?_
  show Go p.tables e below P (T2.setTop (mkF m 13 #[.val (.long q0), .second, .val (.long q1), .second, .val (.long q2), .second, .val (.ref aB), .val (.ref aS), .unset, .unset, .unset, .unset, .unset, .unset, .unset, .unset, .unset, .unset, .unset, .unset] [(.long q2), (.long q1)]))
  obtain ⟨v3, T3, L3, X3, Q3, st3⟩ := Con.static (own_rm1 l Z a0 hw [] q1 q2 h0 n0 Z0  ) X2 hx hZ (W := 0) hown (hw _ (List.mem_of_getElem? (i := 5) rfl)) (hw _ (List.mem_of_getElem? (i := 6) rfl)) (hw _ (List.mem_of_getElem? (i := 7) rfl)) (hw _ (List.mem_of_getElem? (i := 8) rfl)) (by decide) (by decide) (by decide) (by decide) (by decide) e2 (g := (mkF m 13 #[.val (.long q0), .second, .val (.long q1), .second, .val (.long q2), .second, .val (.ref aB), .val (.ref aS), .unset, .unset, .unset, .unset, .unset, .unset, .unset, .unset, .unset, .unset, .unset, .unset] [(.long q2), (.long q1)])) rfl (by rw [hml]; rfl) (argsL := [(.long q1), (.long q2)]) (rest := []) rfl (lenOf own_pd_0 rfl) rfl (by show 2 * 0 + _ ≤ _; exact Nat.le_of_eq rfl) (hb hby at_13)
  obtain ⟨rfl, Nq3, e3⟩ := Q3
  have N3 := Fr.app N0 Nq3
  refine Go.s (fun {t} => st3) ?_
  show Go p.tables e below P (T3.setTop (mkF m 16 #[.val (.long q0), .second, .val (.long q1), .second, .val (.long q2), .second, .val (.ref aB), .val (.ref aS), .unset, .unset, .unset, .unset, .unset, .unset, .unset, .unset, .unset, .unset, .unset, .unset] [(.long (own_f1 q1 q2))]))
  refine Go.s (fun kz => XT.lstore X3.here hx rfl (hb hby at_16) rfl (l' := #[.val (.long q0), .second, .val (.long q1), .second, .val (.long q2), .second, .val (.ref aB), .val (.ref aS), .val (.long (own_f1 q1 q2)), .second, .unset, .unset, .unset, .unset, .unset, .unset, .unset, .unset, .unset, .unset]) rfl kz) ?_
  show Go p.tables e below P (T3.setTop (mkF m 18 #[.val (.long q0), .second, .val (.long q1), .second, .val (.long q2), .second, .val (.ref aB), .val (.ref aS), .val (.long (own_f1 q1 q2)), .second, .unset, .unset, .unset, .unset, .unset, .unset, .unset, .unset, .unset, .unset] []))
  refine (?_ : ∀ lo : Int64, lo = (own_f1 q1 q2) → Go p.tables e below P (T3.setTop (mkF m 18 #[.val (.long q0), .second, .val (.long q1), .second, .val (.long q2), .second, .val (.ref aB), .val (.ref aS), .val (.long lo), .second, .unset, .unset, .unset, .unset, .unset, .unset, .unset, .unset, .unset, .unset] []))) _ rfl
  intro lo hlo
  refine Go.s (fun kz => XT.lloadN X3.here hx rfl (hb hby at_18) rfl kz) ?_
  show Go p.tables e below P (T3.setTop (mkF m 19 #[.val (.long q0), .second, .val (.long q1), .second, .val (.long q2), .second, .val (.ref aB), .val (.ref aS), .val (.long lo), .second, .unset, .unset, .unset, .unset, .unset, .unset, .unset, .unset, .unset, .unset] [(.long q1)]))
  refine Go.s (fun kz => XT.lload X3.here hx rfl (hb hby at_19) rfl kz) ?_
  show Go p.tables e below P (T3.setTop (mkF m 21 #[.val (.long q0), .second, .val (.long q1), .second, .val (.long q2), .second, .val (.ref aB), .val (.ref aS), .val (.long lo), .second, .unset, .unset, .unset, .unset, .unset, .unset, .unset, .unset, .unset, .unset] [(.long q2), (.long q1)]))
  obtain ⟨v4, T4, L4, X4, Q4, st4⟩ := Con.static (own_rm2 l Z a0 hw [] q1 q2 h0 n0 Z0  ) X3 hx hZ (W := 0) hown (hw _ (List.mem_of_getElem? (i := 9) rfl)) (hw _ (List.mem_of_getElem? (i := 10) rfl)) (hw _ (List.mem_of_getElem? (i := 7) rfl)) (hw _ (List.mem_of_getElem? (i := 11) rfl)) (by decide) (by decide) (by decide) (by decide) (by decide) e3 (g := (mkF m 21 #[.val (.long q0), .second, .val (.long q1), .second, .val (.long q2), .second, .val (.ref aB), .val (.ref aS), .val (.long lo), .second, .unset, .unset, .unset, .unset, .unset, .unset, .unset, .unset, .unset, .unset] [(.long q2), (.long q1)])) rfl (by rw [hml]; rfl) (argsL := [(.long q1), (.long q2)]) (rest := []) rfl (lenOf own_pd_0 rfl) rfl (by show 2 * 0 + _ ≤ _; exact Nat.le_of_eq rfl) (hb hby at_21)
  obtain ⟨rfl, Nq4, e4⟩ := Q4
  have N4 := Fr.app N3 Nq4
  refine Go.s (fun {t} => st4) ?_
  show Go p.tables e below P (T4.setTop (mkF m 24 #[.val (.long q0), .second, .val (.long q1), .second, .val (.long q2), .second, .val (.ref aB), .val (.ref aS), .val (.long lo), .second, .unset, .unset, .unset, .unset, .unset, .unset, .unset, .unset, .unset, .unset] [(.long (own_f2 q1 q2))]))
  refine Go.s (fun kz => XT.lstore X4.here hx rfl (hb hby at_24) rfl (l' := #[.val (.long q0), .second, .val (.long q1), .second, .val (.long q2), .second, .val (.ref aB), .val (.ref aS), .val (.long lo), .second, .val (.long (own_f2 q1 q2)), .second, .unset, .unset, .unset, .unset, .unset, .unset, .unset, .unset]) rfl kz) ?_
  show Go p.tables e below P (T4.setTop (mkF m 26 #[.val (.long q0), .second, .val (.long q1), .second, .val (.long q2), .second, .val (.ref aB), .val (.ref aS), .val (.long lo), .second, .val (.long (own_f2 q1 q2)), .second, .unset, .unset, .unset, .unset, .unset, .unset, .unset, .unset] []))
  refine (?_ : ∀ hi : Int64, hi = (own_f2 q1 q2) → Go p.tables e below P (T4.setTop (mkF m 26 #[.val (.long q0), .second, .val (.long q1), .second, .val (.long q2), .second, .val (.ref aB), .val (.ref aS), .val (.long lo), .second, .val (.long hi), .second, .unset, .unset, .unset, .unset, .unset, .unset, .unset, .unset] []))) _ rfl
  intro hi hhi
  have hlh := own_lh q1 q2 lo hi hlo hhi
  refine Go.s (fun kz => XS.aload X4.here hx rfl (hb hby at_26) rfl rfl kz) ?_
  show Go p.tables e below P (T4.setTop (mkF m 28 #[.val (.long q0), .second, .val (.long q1), .second, .val (.long q2), .second, .val (.ref aB), .val (.ref aS), .val (.long lo), .second, .val (.long hi), .second, .unset, .unset, .unset, .unset, .unset, .unset, .unset, .unset] [(.ref aB)]))
  refine Go.s (fun kz => XT.lloadN X4.here hx rfl (hb hby at_28) rfl kz) ?_
  show Go p.tables e below P (T4.setTop (mkF m 29 #[.val (.long q0), .second, .val (.long q1), .second, .val (.long q2), .second, .val (.ref aB), .val (.ref aS), .val (.long lo), .second, .val (.long hi), .second, .unset, .unset, .unset, .unset, .unset, .unset, .unset, .unset] [(.long q0), (.ref aB)]))
  refine Go.s (fun kz => XT.lloadN X4.here hx rfl (hb hby at_29) rfl kz) ?_
  show Go p.tables e below P (T4.setTop (mkF m 30 #[.val (.long q0), .second, .val (.long q1), .second, .val (.long q2), .second, .val (.ref aB), .val (.ref aS), .val (.long lo), .second, .val (.long hi), .second, .unset, .unset, .unset, .unset, .unset, .unset, .unset, .unset] [(.long q0), (.long q0), (.ref aB)]))
  obtain ⟨v5, T5, L5, X5, Q5, st5⟩ := Con.virtual (own_rm3 l Z a0 hw [] aB q0 q0 aB h0 n0 Z0 S_BUY ) X4 hx hZ (W := 0) hown (hw _ (List.mem_of_getElem? (i := 12) rfl)) (hw _ (List.mem_of_getElem? (i := 13) rfl)) (hw _ (List.mem_of_getElem? (i := 15) rfl)) (hw _ (List.mem_of_getElem? (i := 14) rfl)) (hw _ (List.mem_of_getElem? (i := 1) rfl)) (hw _ (List.mem_of_getElem? (i := 16) rfl)) (by decide) (by decide) (by decide) (by decide) (by decide) e4 (g := (mkF m 30 #[.val (.long q0), .second, .val (.long q1), .second, .val (.long q2), .second, .val (.ref aB), .val (.ref aS), .val (.long lo), .second, .val (.long hi), .second, .unset, .unset, .unset, .unset, .unset, .unset, .unset, .unset] [(.long q0), (.long q0), (.ref aB)])) rfl (by rw [hml]; rfl) E_BUY (argsL := [(.long q0), (.long q0)]) (rest := []) rfl (lenOf own_pd_1 rfl) rfl (by show 2 * 0 + _ ≤ _; exact Nat.le_of_eq rfl) (hb hby at_30)
  obtain ⟨rfl, Nq5, e5⟩ := Q5
  have N5 := Fr.app N4 Nq5
  refine Go.s (fun {t} => st5) ?_
  show Go p.tables e below P (T5.setTop (mkF m 33 #[.val (.long q0), .second, .val (.long q1), .second, .val (.long q2), .second, .val (.ref aB), .val (.ref aS), .val (.long lo), .second, .val (.long hi), .second, .unset, .unset, .unset, .unset, .unset, .unset, .unset, .unset] [(.int (own_f3 aB aB q0 q0))]))
  refine Go.s (fun kz => XS.ifNo X5.here hx rfl (hb hby at_33) rfl (XT.i0_eq_f (own_r1 aB q0)) kz) ?_
  show Go p.tables e below P (T5.setTop (mkF m 36 #[.val (.long q0), .second, .val (.long q1), .second, .val (.long q2), .second, .val (.ref aB), .val (.ref aS), .val (.long lo), .second, .val (.long hi), .second, .unset, .unset, .unset, .unset, .unset, .unset, .unset, .unset] []))
  refine Go.s (fun kz => XS.aload X5.here hx rfl (hb hby at_36) rfl rfl kz) ?_
  show Go p.tables e below P (T5.setTop (mkF m 38 #[.val (.long q0), .second, .val (.long q1), .second, .val (.long q2), .second, .val (.ref aB), .val (.ref aS), .val (.long lo), .second, .val (.long hi), .second, .unset, .unset, .unset, .unset, .unset, .unset, .unset, .unset] [(.ref aS)]))
  refine Go.s (fun kz => XT.lloadN X5.here hx rfl (hb hby at_38) rfl kz) ?_
  show Go p.tables e below P (T5.setTop (mkF m 39 #[.val (.long q0), .second, .val (.long q1), .second, .val (.long q2), .second, .val (.ref aB), .val (.ref aS), .val (.long lo), .second, .val (.long hi), .second, .unset, .unset, .unset, .unset, .unset, .unset, .unset, .unset] [(.long q0), (.ref aS)]))
  refine Go.s (fun kz => XT.lloadN X5.here hx rfl (hb hby at_39) rfl kz) ?_
  show Go p.tables e below P (T5.setTop (mkF m 40 #[.val (.long q0), .second, .val (.long q1), .second, .val (.long q2), .second, .val (.ref aB), .val (.ref aS), .val (.long lo), .second, .val (.long hi), .second, .unset, .unset, .unset, .unset, .unset, .unset, .unset, .unset] [(.long q0), (.long q0), (.ref aS)]))
  obtain ⟨v6, T6, L6, X6, Q6, st6⟩ := Con.virtual (own_rm3 l Z a0 hw [] aS q0 q0 aB h0 n0 Z0 S_BUY ) X5 hx hZ (W := 0) hown (hw _ (List.mem_of_getElem? (i := 12) rfl)) (hw _ (List.mem_of_getElem? (i := 13) rfl)) (hw _ (List.mem_of_getElem? (i := 15) rfl)) (hw _ (List.mem_of_getElem? (i := 14) rfl)) (hw _ (List.mem_of_getElem? (i := 1) rfl)) (hw _ (List.mem_of_getElem? (i := 16) rfl)) (by decide) (by decide) (by decide) (by decide) (by decide) e5 (g := (mkF m 40 #[.val (.long q0), .second, .val (.long q1), .second, .val (.long q2), .second, .val (.ref aB), .val (.ref aS), .val (.long lo), .second, .val (.long hi), .second, .unset, .unset, .unset, .unset, .unset, .unset, .unset, .unset] [(.long q0), (.long q0), (.ref aS)])) rfl (by rw [hml]; rfl) E_SELL (argsL := [(.long q0), (.long q0)]) (rest := []) rfl (lenOf own_pd_1 rfl) rfl (by show 2 * 0 + _ ≤ _; exact Nat.le_of_eq rfl) (hb hby at_40)
  obtain ⟨rfl, Nq6, e6⟩ := Q6
  have N6 := Fr.app N5 Nq6
  refine Go.s (fun {t} => st6) ?_
  show Go p.tables e below P (T6.setTop (mkF m 43 #[.val (.long q0), .second, .val (.long q1), .second, .val (.long q2), .second, .val (.ref aB), .val (.ref aS), .val (.long lo), .second, .val (.long hi), .second, .unset, .unset, .unset, .unset, .unset, .unset, .unset, .unset] [(.int (own_f3 aS aB q0 q0))]))
  refine Go.s (fun kz => XS.ifNo X6.here hx rfl (hb hby at_43) rfl (XT.i0_eq_f (own_r2 aS aB neBS q0)) kz) ?_
  show Go p.tables e below P (T6.setTop (mkF m 46 #[.val (.long q0), .second, .val (.long q1), .second, .val (.long q2), .second, .val (.ref aB), .val (.ref aS), .val (.long lo), .second, .val (.long hi), .second, .unset, .unset, .unset, .unset, .unset, .unset, .unset, .unset] []))
  refine Go.s (fun kz => XS.iconst X6.here hx rfl (hb hby at_46) kz) ?_
  show Go p.tables e below P (T6.setTop (mkF m 47 #[.val (.long q0), .second, .val (.long q1), .second, .val (.long q2), .second, .val (.ref aB), .val (.ref aS), .val (.long lo), .second, .val (.long hi), .second, .unset, .unset, .unset, .unset, .unset, .unset, .unset, .unset] [(.int (1 : Int32))]))
  refine Go.s (fun kz => XS.goto X6.here hx rfl (pc0 := 47) (pc' := 51) rfl (hb hby at_47) (by decide) (by decide) kz) ?_
  show Go p.tables e below P (T6.setTop (mkF m 51 #[.val (.long q0), .second, .val (.long q1), .second, .val (.long q2), .second, .val (.ref aB), .val (.ref aS), .val (.long lo), .second, .val (.long hi), .second, .unset, .unset, .unset, .unset, .unset, .unset, .unset, .unset] [(.int (1 : Int32))]))
  refine Go.s (fun kz => XS.istore X6.here hx rfl (hb hby at_51) rfl (l' := #[.val (.long q0), .second, .val (.long q1), .second, .val (.long q2), .second, .val (.ref aB), .val (.ref aS), .val (.long lo), .second, .val (.long hi), .second, .val (.int (1 : Int32)), .unset, .unset, .unset, .unset, .unset, .unset, .unset]) rfl kz) ?_
  show Go p.tables e below P (T6.setTop (mkF m 53 #[.val (.long q0), .second, .val (.long q1), .second, .val (.long q2), .second, .val (.ref aB), .val (.ref aS), .val (.long lo), .second, .val (.long hi), .second, .val (.int (1 : Int32)), .unset, .unset, .unset, .unset, .unset, .unset, .unset] []))
  refine Go.s (fun kz => XS.aload X6.here hx rfl (hb hby at_53) rfl rfl kz) ?_
  show Go p.tables e below P (T6.setTop (mkF m 55 #[.val (.long q0), .second, .val (.long q1), .second, .val (.long q2), .second, .val (.ref aB), .val (.ref aS), .val (.long lo), .second, .val (.long hi), .second, .val (.int (1 : Int32)), .unset, .unset, .unset, .unset, .unset, .unset, .unset] [(.ref aB)]))
  refine Go.s (fun kz => XT.lloadN X6.here hx rfl (hb hby at_55) rfl kz) ?_
  show Go p.tables e below P (T6.setTop (mkF m 56 #[.val (.long q0), .second, .val (.long q1), .second, .val (.long q2), .second, .val (.ref aB), .val (.ref aS), .val (.long lo), .second, .val (.long hi), .second, .val (.int (1 : Int32)), .unset, .unset, .unset, .unset, .unset, .unset, .unset] [(.long q0), (.ref aB)]))
  refine Go.s (fun kz => XT.lloadN X6.here hx rfl (hb hby at_56) rfl kz) ?_
  show Go p.tables e below P (T6.setTop (mkF m 57 #[.val (.long q0), .second, .val (.long q1), .second, .val (.long q2), .second, .val (.ref aB), .val (.ref aS), .val (.long lo), .second, .val (.long hi), .second, .val (.int (1 : Int32)), .unset, .unset, .unset, .unset, .unset, .unset, .unset] [(.long q1), (.long q0), (.ref aB)]))
  obtain ⟨v7, T7, L7, X7, Q7, st7⟩ := Con.virtual (own_rm3 l Z a0 hw [] aB q0 q1 aB h0 n0 Z0 S_BUY ) X6 hx hZ (W := 0) hown (hw _ (List.mem_of_getElem? (i := 12) rfl)) (hw _ (List.mem_of_getElem? (i := 13) rfl)) (hw _ (List.mem_of_getElem? (i := 15) rfl)) (hw _ (List.mem_of_getElem? (i := 14) rfl)) (hw _ (List.mem_of_getElem? (i := 1) rfl)) (hw _ (List.mem_of_getElem? (i := 16) rfl)) (by decide) (by decide) (by decide) (by decide) (by decide) e6 (g := (mkF m 57 #[.val (.long q0), .second, .val (.long q1), .second, .val (.long q2), .second, .val (.ref aB), .val (.ref aS), .val (.long lo), .second, .val (.long hi), .second, .val (.int (1 : Int32)), .unset, .unset, .unset, .unset, .unset, .unset, .unset] [(.long q1), (.long q0), (.ref aB)])) rfl (by rw [hml]; rfl) E_BUY (argsL := [(.long q0), (.long q1)]) (rest := []) rfl (lenOf own_pd_1 rfl) rfl (by show 2 * 0 + _ ≤ _; exact Nat.le_of_eq rfl) (hb hby at_57)
  obtain ⟨rfl, Nq7, e7⟩ := Q7
  have N7 := Fr.app N6 Nq7
  refine Go.s (fun {t} => st7) ?_
  show Go p.tables e below P (T7.setTop (mkF m 60 #[.val (.long q0), .second, .val (.long q1), .second, .val (.long q2), .second, .val (.ref aB), .val (.ref aS), .val (.long lo), .second, .val (.long hi), .second, .val (.int (1 : Int32)), .unset, .unset, .unset, .unset, .unset, .unset, .unset] [(.int (own_f3 aB aB q0 q1))]))
  refine Go.s (fun kz => XS.istore X7.here hx rfl (hb hby at_60) rfl (l' := #[.val (.long q0), .second, .val (.long q1), .second, .val (.long q2), .second, .val (.ref aB), .val (.ref aS), .val (.long lo), .second, .val (.long hi), .second, .val (.int (1 : Int32)), .val (.int (own_f3 aB aB q0 q1)), .unset, .unset, .unset, .unset, .unset, .unset]) rfl kz) ?_
  show Go p.tables e below P (T7.setTop (mkF m 62 #[.val (.long q0), .second, .val (.long q1), .second, .val (.long q2), .second, .val (.ref aB), .val (.ref aS), .val (.long lo), .second, .val (.long hi), .second, .val (.int (1 : Int32)), .val (.int (own_f3 aB aB q0 q1)), .unset, .unset, .unset, .unset, .unset, .unset] []))
  refine Go.s (fun kz => XS.aload X7.here hx rfl (hb hby at_62) rfl rfl kz) ?_
  show Go p.tables e below P (T7.setTop (mkF m 64 #[.val (.long q0), .second, .val (.long q1), .second, .val (.long q2), .second, .val (.ref aB), .val (.ref aS), .val (.long lo), .second, .val (.long hi), .second, .val (.int (1 : Int32)), .val (.int (own_f3 aB aB q0 q1)), .unset, .unset, .unset, .unset, .unset, .unset] [(.ref aB)]))
  refine Go.s (fun kz => XT.lloadN X7.here hx rfl (hb hby at_64) rfl kz) ?_
  show Go p.tables e below P (T7.setTop (mkF m 65 #[.val (.long q0), .second, .val (.long q1), .second, .val (.long q2), .second, .val (.ref aB), .val (.ref aS), .val (.long lo), .second, .val (.long hi), .second, .val (.int (1 : Int32)), .val (.int (own_f3 aB aB q0 q1)), .unset, .unset, .unset, .unset, .unset, .unset] [(.long q1), (.ref aB)]))
  refine Go.s (fun kz => XT.lloadN X7.here hx rfl (hb hby at_65) rfl kz) ?_
  show Go p.tables e below P (T7.setTop (mkF m 66 #[.val (.long q0), .second, .val (.long q1), .second, .val (.long q2), .second, .val (.ref aB), .val (.ref aS), .val (.long lo), .second, .val (.long hi), .second, .val (.int (1 : Int32)), .val (.int (own_f3 aB aB q0 q1)), .unset, .unset, .unset, .unset, .unset, .unset] [(.long q0), (.long q1), (.ref aB)]))
  obtain ⟨v8, T8, L8, X8, Q8, st8⟩ := Con.virtual (own_rm3 l Z a0 hw [] aB q1 q0 aB h0 n0 Z0 S_BUY ) X7 hx hZ (W := 0) hown (hw _ (List.mem_of_getElem? (i := 12) rfl)) (hw _ (List.mem_of_getElem? (i := 13) rfl)) (hw _ (List.mem_of_getElem? (i := 15) rfl)) (hw _ (List.mem_of_getElem? (i := 14) rfl)) (hw _ (List.mem_of_getElem? (i := 1) rfl)) (hw _ (List.mem_of_getElem? (i := 16) rfl)) (by decide) (by decide) (by decide) (by decide) (by decide) e7 (g := (mkF m 66 #[.val (.long q0), .second, .val (.long q1), .second, .val (.long q2), .second, .val (.ref aB), .val (.ref aS), .val (.long lo), .second, .val (.long hi), .second, .val (.int (1 : Int32)), .val (.int (own_f3 aB aB q0 q1)), .unset, .unset, .unset, .unset, .unset, .unset] [(.long q0), (.long q1), (.ref aB)])) rfl (by rw [hml]; rfl) E_BUY (argsL := [(.long q1), (.long q0)]) (rest := []) rfl (lenOf own_pd_1 rfl) rfl (by show 2 * 0 + _ ≤ _; exact Nat.le_of_eq rfl) (hb hby at_66)
  obtain ⟨rfl, Nq8, e8⟩ := Q8
  have N8 := Fr.app N7 Nq8
  refine Go.s (fun {t} => st8) ?_
  show Go p.tables e below P (T8.setTop (mkF m 69 #[.val (.long q0), .second, .val (.long q1), .second, .val (.long q2), .second, .val (.ref aB), .val (.ref aS), .val (.long lo), .second, .val (.long hi), .second, .val (.int (1 : Int32)), .val (.int (own_f3 aB aB q0 q1)), .unset, .unset, .unset, .unset, .unset, .unset] [(.int (own_f3 aB aB q1 q0))]))
  refine Go.s (fun kz => XS.istore X8.here hx rfl (hb hby at_69) rfl (l' := #[.val (.long q0), .second, .val (.long q1), .second, .val (.long q2), .second, .val (.ref aB), .val (.ref aS), .val (.long lo), .second, .val (.long hi), .second, .val (.int (1 : Int32)), .val (.int (own_f3 aB aB q0 q1)), .val (.int (own_f3 aB aB q1 q0)), .unset, .unset, .unset, .unset, .unset]) rfl kz) ?_
  show Go p.tables e below P (T8.setTop (mkF m 71 #[.val (.long q0), .second, .val (.long q1), .second, .val (.long q2), .second, .val (.ref aB), .val (.ref aS), .val (.long lo), .second, .val (.long hi), .second, .val (.int (1 : Int32)), .val (.int (own_f3 aB aB q0 q1)), .val (.int (own_f3 aB aB q1 q0)), .unset, .unset, .unset, .unset, .unset] []))
  refine Go.s (fun kz => XS.aload X8.here hx rfl (hb hby at_71) rfl rfl kz) ?_
  show Go p.tables e below P (T8.setTop (mkF m 73 #[.val (.long q0), .second, .val (.long q1), .second, .val (.long q2), .second, .val (.ref aB), .val (.ref aS), .val (.long lo), .second, .val (.long hi), .second, .val (.int (1 : Int32)), .val (.int (own_f3 aB aB q0 q1)), .val (.int (own_f3 aB aB q1 q0)), .unset, .unset, .unset, .unset, .unset] [(.ref aS)]))
  refine Go.s (fun kz => XT.lloadN X8.here hx rfl (hb hby at_73) rfl kz) ?_
  show Go p.tables e below P (T8.setTop (mkF m 74 #[.val (.long q0), .second, .val (.long q1), .second, .val (.long q2), .second, .val (.ref aB), .val (.ref aS), .val (.long lo), .second, .val (.long hi), .second, .val (.int (1 : Int32)), .val (.int (own_f3 aB aB q0 q1)), .val (.int (own_f3 aB aB q1 q0)), .unset, .unset, .unset, .unset, .unset] [(.long q1), (.ref aS)]))
  refine Go.s (fun kz => XT.lloadN X8.here hx rfl (hb hby at_74) rfl kz) ?_
  show Go p.tables e below P (T8.setTop (mkF m 75 #[.val (.long q0), .second, .val (.long q1), .second, .val (.long q2), .second, .val (.ref aB), .val (.ref aS), .val (.long lo), .second, .val (.long hi), .second, .val (.int (1 : Int32)), .val (.int (own_f3 aB aB q0 q1)), .val (.int (own_f3 aB aB q1 q0)), .unset, .unset, .unset, .unset, .unset] [(.long q0), (.long q1), (.ref aS)]))
  obtain ⟨v9, T9, L9, X9, Q9, st9⟩ := Con.virtual (own_rm3 l Z a0 hw [] aS q1 q0 aB h0 n0 Z0 S_BUY ) X8 hx hZ (W := 0) hown (hw _ (List.mem_of_getElem? (i := 12) rfl)) (hw _ (List.mem_of_getElem? (i := 13) rfl)) (hw _ (List.mem_of_getElem? (i := 15) rfl)) (hw _ (List.mem_of_getElem? (i := 14) rfl)) (hw _ (List.mem_of_getElem? (i := 1) rfl)) (hw _ (List.mem_of_getElem? (i := 16) rfl)) (by decide) (by decide) (by decide) (by decide) (by decide) e8 (g := (mkF m 75 #[.val (.long q0), .second, .val (.long q1), .second, .val (.long q2), .second, .val (.ref aB), .val (.ref aS), .val (.long lo), .second, .val (.long hi), .second, .val (.int (1 : Int32)), .val (.int (own_f3 aB aB q0 q1)), .val (.int (own_f3 aB aB q1 q0)), .unset, .unset, .unset, .unset, .unset] [(.long q0), (.long q1), (.ref aS)])) rfl (by rw [hml]; rfl) E_SELL (argsL := [(.long q1), (.long q0)]) (rest := []) rfl (lenOf own_pd_1 rfl) rfl (by show 2 * 0 + _ ≤ _; exact Nat.le_of_eq rfl) (hb hby at_75)
  obtain ⟨rfl, Nq9, e9⟩ := Q9
  have N9 := Fr.app N8 Nq9
  refine Go.s (fun {t} => st9) ?_
  show Go p.tables e below P (T9.setTop (mkF m 78 #[.val (.long q0), .second, .val (.long q1), .second, .val (.long q2), .second, .val (.ref aB), .val (.ref aS), .val (.long lo), .second, .val (.long hi), .second, .val (.int (1 : Int32)), .val (.int (own_f3 aB aB q0 q1)), .val (.int (own_f3 aB aB q1 q0)), .unset, .unset, .unset, .unset, .unset] [(.int (own_f3 aS aB q1 q0))]))
  refine Go.s (fun kz => XS.istore X9.here hx rfl (hb hby at_78) rfl (l' := #[.val (.long q0), .second, .val (.long q1), .second, .val (.long q2), .second, .val (.ref aB), .val (.ref aS), .val (.long lo), .second, .val (.long hi), .second, .val (.int (1 : Int32)), .val (.int (own_f3 aB aB q0 q1)), .val (.int (own_f3 aB aB q1 q0)), .val (.int (own_f3 aS aB q1 q0)), .unset, .unset, .unset, .unset]) rfl kz) ?_
  show Go p.tables e below P (T9.setTop (mkF m 80 #[.val (.long q0), .second, .val (.long q1), .second, .val (.long q2), .second, .val (.ref aB), .val (.ref aS), .val (.long lo), .second, .val (.long hi), .second, .val (.int (1 : Int32)), .val (.int (own_f3 aB aB q0 q1)), .val (.int (own_f3 aB aB q1 q0)), .val (.int (own_f3 aS aB q1 q0)), .unset, .unset, .unset, .unset] []))
  refine Go.s (fun kz => XS.iload X9.here hx rfl (hb hby at_80) rfl kz) ?_
  show Go p.tables e below P (T9.setTop (mkF m 82 #[.val (.long q0), .second, .val (.long q1), .second, .val (.long q2), .second, .val (.ref aB), .val (.ref aS), .val (.long lo), .second, .val (.long hi), .second, .val (.int (1 : Int32)), .val (.int (own_f3 aB aB q0 q1)), .val (.int (own_f3 aB aB q1 q0)), .val (.int (own_f3 aS aB q1 q0)), .unset, .unset, .unset, .unset] [(.int (own_f3 aB aB q0 q1))]))
  refine Go.s (fun kz => XS.iload X9.here hx rfl (hb hby at_82) rfl kz) ?_
  show Go p.tables e below P (T9.setTop (mkF m 84 #[.val (.long q0), .second, .val (.long q1), .second, .val (.long q2), .second, .val (.ref aB), .val (.ref aS), .val (.long lo), .second, .val (.long hi), .second, .val (.int (1 : Int32)), .val (.int (own_f3 aB aB q0 q1)), .val (.int (own_f3 aB aB q1 q0)), .val (.int (own_f3 aS aB q1 q0)), .unset, .unset, .unset, .unset] [(.int (own_f3 aS aB q1 q0)), (.int (own_f3 aB aB q0 q1))]))
  refine Go.s (fun kz => XS.icmpNo X9.here hx rfl (hb hby at_84) rfl (XT.ii_ne_f (own_du aS aB neBS q0 q1)) kz) ?_
  show Go p.tables e below P (T9.setTop (mkF m 87 #[.val (.long q0), .second, .val (.long q1), .second, .val (.long q2), .second, .val (.ref aB), .val (.ref aS), .val (.long lo), .second, .val (.long hi), .second, .val (.int (1 : Int32)), .val (.int (own_f3 aB aB q0 q1)), .val (.int (own_f3 aB aB q1 q0)), .val (.int (own_f3 aS aB q1 q0)), .unset, .unset, .unset, .unset] []))
  refine Go.s (fun kz => XS.iconst X9.here hx rfl (hb hby at_87) kz) ?_
  show Go p.tables e below P (T9.setTop (mkF m 88 #[.val (.long q0), .second, .val (.long q1), .second, .val (.long q2), .second, .val (.ref aB), .val (.ref aS), .val (.long lo), .second, .val (.long hi), .second, .val (.int (1 : Int32)), .val (.int (own_f3 aB aB q0 q1)), .val (.int (own_f3 aB aB q1 q0)), .val (.int (own_f3 aS aB q1 q0)), .unset, .unset, .unset, .unset] [(.int (1 : Int32))]))
  refine Go.s (fun kz => XS.goto X9.here hx rfl (pc0 := 88) (pc' := 92) rfl (hb hby at_88) (by decide) (by decide) kz) ?_
  show Go p.tables e below P (T9.setTop (mkF m 92 #[.val (.long q0), .second, .val (.long q1), .second, .val (.long q2), .second, .val (.ref aB), .val (.ref aS), .val (.long lo), .second, .val (.long hi), .second, .val (.int (1 : Int32)), .val (.int (own_f3 aB aB q0 q1)), .val (.int (own_f3 aB aB q1 q0)), .val (.int (own_f3 aS aB q1 q0)), .unset, .unset, .unset, .unset] [(.int (1 : Int32))]))
  refine Go.s (fun kz => XS.istore X9.here hx rfl (hb hby at_92) rfl (l' := #[.val (.long q0), .second, .val (.long q1), .second, .val (.long q2), .second, .val (.ref aB), .val (.ref aS), .val (.long lo), .second, .val (.long hi), .second, .val (.int (1 : Int32)), .val (.int (own_f3 aB aB q0 q1)), .val (.int (own_f3 aB aB q1 q0)), .val (.int (own_f3 aS aB q1 q0)), .val (.int (1 : Int32)), .unset, .unset, .unset]) rfl kz) ?_
  show Go p.tables e below P (T9.setTop (mkF m 94 #[.val (.long q0), .second, .val (.long q1), .second, .val (.long q2), .second, .val (.ref aB), .val (.ref aS), .val (.long lo), .second, .val (.long hi), .second, .val (.int (1 : Int32)), .val (.int (own_f3 aB aB q0 q1)), .val (.int (own_f3 aB aB q1 q0)), .val (.int (own_f3 aS aB q1 q0)), .val (.int (1 : Int32)), .unset, .unset, .unset] []))
  have J112 : Go p.tables e below P (T9.setTop (mkF m 112 #[.val (.long q0), .second, .val (.long q1), .second, .val (.long q2), .second, .val (.ref aB), .val (.ref aS), .val (.long lo), .second, .val (.long hi), .second, .val (.int (1 : Int32)), .val (.int (own_f3 aB aB q0 q1)), .val (.int (own_f3 aB aB q1 q0)), .val (.int (own_f3 aS aB q1 q0)), .val (.int (1 : Int32)), .unset, .unset, .unset] [(.int (1 : Int32))])) := by
    refine Go.s (fun kz => XS.istore X9.here hx rfl (hb hby at_112) rfl (l' := #[.val (.long q0), .second, .val (.long q1), .second, .val (.long q2), .second, .val (.ref aB), .val (.ref aS), .val (.long lo), .second, .val (.long hi), .second, .val (.int (1 : Int32)), .val (.int (own_f3 aB aB q0 q1)), .val (.int (own_f3 aB aB q1 q0)), .val (.int (own_f3 aS aB q1 q0)), .val (.int (1 : Int32)), .val (.int (1 : Int32)), .unset, .unset]) rfl kz) ?_
    show Go p.tables e below P (T9.setTop (mkF m 114 #[.val (.long q0), .second, .val (.long q1), .second, .val (.long q2), .second, .val (.ref aB), .val (.ref aS), .val (.long lo), .second, .val (.long hi), .second, .val (.int (1 : Int32)), .val (.int (own_f3 aB aB q0 q1)), .val (.int (own_f3 aB aB q1 q0)), .val (.int (own_f3 aS aB q1 q0)), .val (.int (1 : Int32)), .val (.int (1 : Int32)), .unset, .unset] []))
    refine Go.s (fun kz => XS.aload X9.here hx rfl (hb hby at_114) rfl rfl kz) ?_
    show Go p.tables e below P (T9.setTop (mkF m 116 #[.val (.long q0), .second, .val (.long q1), .second, .val (.long q2), .second, .val (.ref aB), .val (.ref aS), .val (.long lo), .second, .val (.long hi), .second, .val (.int (1 : Int32)), .val (.int (own_f3 aB aB q0 q1)), .val (.int (own_f3 aB aB q1 q0)), .val (.int (own_f3 aS aB q1 q0)), .val (.int (1 : Int32)), .val (.int (1 : Int32)), .unset, .unset] [(.ref aB)]))
    refine Go.s (fun kz => XT.lloadN X9.here hx rfl (hb hby at_116) rfl kz) ?_
    show Go p.tables e below P (T9.setTop (mkF m 117 #[.val (.long q0), .second, .val (.long q1), .second, .val (.long q2), .second, .val (.ref aB), .val (.ref aS), .val (.long lo), .second, .val (.long hi), .second, .val (.int (1 : Int32)), .val (.int (own_f3 aB aB q0 q1)), .val (.int (own_f3 aB aB q1 q0)), .val (.int (own_f3 aS aB q1 q0)), .val (.int (1 : Int32)), .val (.int (1 : Int32)), .unset, .unset] [(.long q0), (.ref aB)]))
    refine Go.s (fun kz => XT.lload X9.here hx rfl (hb hby at_117) rfl kz) ?_
    show Go p.tables e below P (T9.setTop (mkF m 119 #[.val (.long q0), .second, .val (.long q1), .second, .val (.long q2), .second, .val (.ref aB), .val (.ref aS), .val (.long lo), .second, .val (.long hi), .second, .val (.int (1 : Int32)), .val (.int (own_f3 aB aB q0 q1)), .val (.int (own_f3 aB aB q1 q0)), .val (.int (own_f3 aS aB q1 q0)), .val (.int (1 : Int32)), .val (.int (1 : Int32)), .unset, .unset] [(.long hi), (.long q0), (.ref aB)]))
    obtain ⟨v10, T10, L10, X10, Q10, st10⟩ := Con.virtual (own_rm3 l Z a0 hw [] aB q0 hi aB h0 n0 Z0 S_BUY ) X9 hx hZ (W := 0) hown (hw _ (List.mem_of_getElem? (i := 12) rfl)) (hw _ (List.mem_of_getElem? (i := 13) rfl)) (hw _ (List.mem_of_getElem? (i := 15) rfl)) (hw _ (List.mem_of_getElem? (i := 14) rfl)) (hw _ (List.mem_of_getElem? (i := 1) rfl)) (hw _ (List.mem_of_getElem? (i := 16) rfl)) (by decide) (by decide) (by decide) (by decide) (by decide) e9 (g := (mkF m 119 #[.val (.long q0), .second, .val (.long q1), .second, .val (.long q2), .second, .val (.ref aB), .val (.ref aS), .val (.long lo), .second, .val (.long hi), .second, .val (.int (1 : Int32)), .val (.int (own_f3 aB aB q0 q1)), .val (.int (own_f3 aB aB q1 q0)), .val (.int (own_f3 aS aB q1 q0)), .val (.int (1 : Int32)), .val (.int (1 : Int32)), .unset, .unset] [(.long hi), (.long q0), (.ref aB)])) rfl (by rw [hml]; rfl) E_BUY (argsL := [(.long q0), (.long hi)]) (rest := []) rfl (lenOf own_pd_1 rfl) rfl (by show 2 * 0 + _ ≤ _; exact Nat.le_of_eq rfl) (hb hby at_119)
    obtain ⟨rfl, Nq10, e10⟩ := Q10
    have N10 := Fr.app N9 Nq10
    refine Go.s (fun {t} => st10) ?_
    show Go p.tables e below P (T10.setTop (mkF m 122 #[.val (.long q0), .second, .val (.long q1), .second, .val (.long q2), .second, .val (.ref aB), .val (.ref aS), .val (.long lo), .second, .val (.long hi), .second, .val (.int (1 : Int32)), .val (.int (own_f3 aB aB q0 q1)), .val (.int (own_f3 aB aB q1 q0)), .val (.int (own_f3 aS aB q1 q0)), .val (.int (1 : Int32)), .val (.int (1 : Int32)), .unset, .unset] [(.int (own_f3 aB aB q0 hi))]))
    by_cases hc122 : (own_f3 aB aB q0 hi) = 0
    · skip
      refine Go.s (fun kz => XS.ifYes X10.here hx rfl (pc0 := 122) (pc' := 136) rfl (hb hby at_122) rfl (XT.i0_eq_t hc122) (by decide) (by decide) kz) ?_
      show Go p.tables e below P (T10.setTop (mkF m 136 #[.val (.long q0), .second, .val (.long q1), .second, .val (.long q2), .second, .val (.ref aB), .val (.ref aS), .val (.long lo), .second, .val (.long hi), .second, .val (.int (1 : Int32)), .val (.int (own_f3 aB aB q0 q1)), .val (.int (own_f3 aB aB q1 q0)), .val (.int (own_f3 aS aB q1 q0)), .val (.int (1 : Int32)), .val (.int (1 : Int32)), .unset, .unset] []))
      refine Go.s (fun kz => XS.iconst X10.here hx rfl (hb hby at_136) kz) ?_
      show Go p.tables e below P (T10.setTop (mkF m 137 #[.val (.long q0), .second, .val (.long q1), .second, .val (.long q2), .second, .val (.ref aB), .val (.ref aS), .val (.long lo), .second, .val (.long hi), .second, .val (.int (1 : Int32)), .val (.int (own_f3 aB aB q0 q1)), .val (.int (own_f3 aB aB q1 q0)), .val (.int (own_f3 aS aB q1 q0)), .val (.int (1 : Int32)), .val (.int (1 : Int32)), .unset, .unset] [(.int (1 : Int32))]))
      refine Go.s (fun kz => XS.goto X10.here hx rfl (pc0 := 137) (pc' := 141) rfl (hb hby at_137) (by decide) (by decide) kz) ?_
      show Go p.tables e below P (T10.setTop (mkF m 141 #[.val (.long q0), .second, .val (.long q1), .second, .val (.long q2), .second, .val (.ref aB), .val (.ref aS), .val (.long lo), .second, .val (.long hi), .second, .val (.int (1 : Int32)), .val (.int (own_f3 aB aB q0 q1)), .val (.int (own_f3 aB aB q1 q0)), .val (.int (own_f3 aS aB q1 q0)), .val (.int (1 : Int32)), .val (.int (1 : Int32)), .unset, .unset] [(.int (1 : Int32))]))
      refine Go.s (fun kz => XS.istore X10.here hx rfl (hb hby at_141) rfl (l' := #[.val (.long q0), .second, .val (.long q1), .second, .val (.long q2), .second, .val (.ref aB), .val (.ref aS), .val (.long lo), .second, .val (.long hi), .second, .val (.int (1 : Int32)), .val (.int (own_f3 aB aB q0 q1)), .val (.int (own_f3 aB aB q1 q0)), .val (.int (own_f3 aS aB q1 q0)), .val (.int (1 : Int32)), .val (.int (1 : Int32)), .val (.int (1 : Int32)), .unset]) rfl kz) ?_
      show Go p.tables e below P (T10.setTop (mkF m 143 #[.val (.long q0), .second, .val (.long q1), .second, .val (.long q2), .second, .val (.ref aB), .val (.ref aS), .val (.long lo), .second, .val (.long hi), .second, .val (.int (1 : Int32)), .val (.int (own_f3 aB aB q0 q1)), .val (.int (own_f3 aB aB q1 q0)), .val (.int (own_f3 aS aB q1 q0)), .val (.int (1 : Int32)), .val (.int (1 : Int32)), .val (.int (1 : Int32)), .unset] []))
      refine Go.s (fun kz => XS.aload X10.here hx rfl (hb hby at_143) rfl rfl kz) ?_
      show Go p.tables e below P (T10.setTop (mkF m 145 #[.val (.long q0), .second, .val (.long q1), .second, .val (.long q2), .second, .val (.ref aB), .val (.ref aS), .val (.long lo), .second, .val (.long hi), .second, .val (.int (1 : Int32)), .val (.int (own_f3 aB aB q0 q1)), .val (.int (own_f3 aB aB q1 q0)), .val (.int (own_f3 aS aB q1 q0)), .val (.int (1 : Int32)), .val (.int (1 : Int32)), .val (.int (1 : Int32)), .unset] [(.ref aS)]))
      refine Go.s (fun kz => XT.lloadN X10.here hx rfl (hb hby at_145) rfl kz) ?_
      show Go p.tables e below P (T10.setTop (mkF m 146 #[.val (.long q0), .second, .val (.long q1), .second, .val (.long q2), .second, .val (.ref aB), .val (.ref aS), .val (.long lo), .second, .val (.long hi), .second, .val (.int (1 : Int32)), .val (.int (own_f3 aB aB q0 q1)), .val (.int (own_f3 aB aB q1 q0)), .val (.int (own_f3 aS aB q1 q0)), .val (.int (1 : Int32)), .val (.int (1 : Int32)), .val (.int (1 : Int32)), .unset] [(.long q0), (.ref aS)]))
      refine Go.s (fun kz => XT.lload X10.here hx rfl (hb hby at_146) rfl kz) ?_
      show Go p.tables e below P (T10.setTop (mkF m 148 #[.val (.long q0), .second, .val (.long q1), .second, .val (.long q2), .second, .val (.ref aB), .val (.ref aS), .val (.long lo), .second, .val (.long hi), .second, .val (.int (1 : Int32)), .val (.int (own_f3 aB aB q0 q1)), .val (.int (own_f3 aB aB q1 q0)), .val (.int (own_f3 aS aB q1 q0)), .val (.int (1 : Int32)), .val (.int (1 : Int32)), .val (.int (1 : Int32)), .unset] [(.long lo), (.long q0), (.ref aS)]))
      obtain ⟨v11, T11, L11, X11, Q11, st11⟩ := Con.virtual (own_rm3 l Z a0 hw [] aS q0 lo aB h0 n0 Z0 S_BUY ) X10 hx hZ (W := 0) hown (hw _ (List.mem_of_getElem? (i := 12) rfl)) (hw _ (List.mem_of_getElem? (i := 13) rfl)) (hw _ (List.mem_of_getElem? (i := 15) rfl)) (hw _ (List.mem_of_getElem? (i := 14) rfl)) (hw _ (List.mem_of_getElem? (i := 1) rfl)) (hw _ (List.mem_of_getElem? (i := 16) rfl)) (by decide) (by decide) (by decide) (by decide) (by decide) e10 (g := (mkF m 148 #[.val (.long q0), .second, .val (.long q1), .second, .val (.long q2), .second, .val (.ref aB), .val (.ref aS), .val (.long lo), .second, .val (.long hi), .second, .val (.int (1 : Int32)), .val (.int (own_f3 aB aB q0 q1)), .val (.int (own_f3 aB aB q1 q0)), .val (.int (own_f3 aS aB q1 q0)), .val (.int (1 : Int32)), .val (.int (1 : Int32)), .val (.int (1 : Int32)), .unset] [(.long lo), (.long q0), (.ref aS)])) rfl (by rw [hml]; rfl) E_SELL (argsL := [(.long q0), (.long lo)]) (rest := []) rfl (lenOf own_pd_1 rfl) rfl (by show 2 * 0 + _ ≤ _; exact Nat.le_of_eq rfl) (hb hby at_148)
      obtain ⟨rfl, Nq11, e11⟩ := Q11
      have N11 := Fr.app N10 Nq11
      refine Go.s (fun {t} => st11) ?_
      show Go p.tables e below P (T11.setTop (mkF m 151 #[.val (.long q0), .second, .val (.long q1), .second, .val (.long q2), .second, .val (.ref aB), .val (.ref aS), .val (.long lo), .second, .val (.long hi), .second, .val (.int (1 : Int32)), .val (.int (own_f3 aB aB q0 q1)), .val (.int (own_f3 aB aB q1 q0)), .val (.int (own_f3 aS aB q1 q0)), .val (.int (1 : Int32)), .val (.int (1 : Int32)), .val (.int (1 : Int32)), .unset] [(.int (own_f3 aS aB q0 lo))]))
      by_cases hc151 : (own_f3 aS aB q0 lo) = 0
      · skip
        refine Go.s (fun kz => XS.ifYes X11.here hx rfl (pc0 := 151) (pc' := 165) rfl (hb hby at_151) rfl (XT.i0_eq_t hc151) (by decide) (by decide) kz) ?_
        show Go p.tables e below P (T11.setTop (mkF m 165 #[.val (.long q0), .second, .val (.long q1), .second, .val (.long q2), .second, .val (.ref aB), .val (.ref aS), .val (.long lo), .second, .val (.long hi), .second, .val (.int (1 : Int32)), .val (.int (own_f3 aB aB q0 q1)), .val (.int (own_f3 aB aB q1 q0)), .val (.int (own_f3 aS aB q1 q0)), .val (.int (1 : Int32)), .val (.int (1 : Int32)), .val (.int (1 : Int32)), .unset] []))
        refine Go.s (fun kz => XS.iconst X11.here hx rfl (hb hby at_165) kz) ?_
        show Go p.tables e below P (T11.setTop (mkF m 166 #[.val (.long q0), .second, .val (.long q1), .second, .val (.long q2), .second, .val (.ref aB), .val (.ref aS), .val (.long lo), .second, .val (.long hi), .second, .val (.int (1 : Int32)), .val (.int (own_f3 aB aB q0 q1)), .val (.int (own_f3 aB aB q1 q0)), .val (.int (own_f3 aS aB q1 q0)), .val (.int (1 : Int32)), .val (.int (1 : Int32)), .val (.int (1 : Int32)), .unset] [(.int (1 : Int32))]))
        refine Go.s (fun kz => XS.goto X11.here hx rfl (pc0 := 166) (pc' := 170) rfl (hb hby at_166) (by decide) (by decide) kz) ?_
        show Go p.tables e below P (T11.setTop (mkF m 170 #[.val (.long q0), .second, .val (.long q1), .second, .val (.long q2), .second, .val (.ref aB), .val (.ref aS), .val (.long lo), .second, .val (.long hi), .second, .val (.int (1 : Int32)), .val (.int (own_f3 aB aB q0 q1)), .val (.int (own_f3 aB aB q1 q0)), .val (.int (own_f3 aS aB q1 q0)), .val (.int (1 : Int32)), .val (.int (1 : Int32)), .val (.int (1 : Int32)), .unset] [(.int (1 : Int32))]))
        refine Go.s (fun kz => XS.istore X11.here hx rfl (hb hby at_170) rfl (l' := #[.val (.long q0), .second, .val (.long q1), .second, .val (.long q2), .second, .val (.ref aB), .val (.ref aS), .val (.long lo), .second, .val (.long hi), .second, .val (.int (1 : Int32)), .val (.int (own_f3 aB aB q0 q1)), .val (.int (own_f3 aB aB q1 q0)), .val (.int (own_f3 aS aB q1 q0)), .val (.int (1 : Int32)), .val (.int (1 : Int32)), .val (.int (1 : Int32)), .val (.int (1 : Int32))]) rfl kz) ?_
        show Go p.tables e below P (T11.setTop (mkF m 172 #[.val (.long q0), .second, .val (.long q1), .second, .val (.long q2), .second, .val (.ref aB), .val (.ref aS), .val (.long lo), .second, .val (.long hi), .second, .val (.int (1 : Int32)), .val (.int (own_f3 aB aB q0 q1)), .val (.int (own_f3 aB aB q1 q0)), .val (.int (own_f3 aS aB q1 q0)), .val (.int (1 : Int32)), .val (.int (1 : Int32)), .val (.int (1 : Int32)), .val (.int (1 : Int32))] []))
        refine Go.s (fun kz => XS.iload X11.here hx rfl (hb hby at_172) rfl kz) ?_
        show Go p.tables e below P (T11.setTop (mkF m 174 #[.val (.long q0), .second, .val (.long q1), .second, .val (.long q2), .second, .val (.ref aB), .val (.ref aS), .val (.long lo), .second, .val (.long hi), .second, .val (.int (1 : Int32)), .val (.int (own_f3 aB aB q0 q1)), .val (.int (own_f3 aB aB q1 q0)), .val (.int (own_f3 aS aB q1 q0)), .val (.int (1 : Int32)), .val (.int (1 : Int32)), .val (.int (1 : Int32)), .val (.int (1 : Int32))] [(.int (1 : Int32))]))
        refine Go.s (fun kz => XS.ifNo X11.here hx rfl (hb hby at_174) rfl (XT.i0_eq_f (by decide)) kz) ?_
        show Go p.tables e below P (T11.setTop (mkF m 177 #[.val (.long q0), .second, .val (.long q1), .second, .val (.long q2), .second, .val (.ref aB), .val (.ref aS), .val (.long lo), .second, .val (.long hi), .second, .val (.int (1 : Int32)), .val (.int (own_f3 aB aB q0 q1)), .val (.int (own_f3 aB aB q1 q0)), .val (.int (own_f3 aS aB q1 q0)), .val (.int (1 : Int32)), .val (.int (1 : Int32)), .val (.int (1 : Int32)), .val (.int (1 : Int32))] []))
        refine Go.s (fun kz => XS.iload X11.here hx rfl (hb hby at_177) rfl kz) ?_
        show Go p.tables e below P (T11.setTop (mkF m 179 #[.val (.long q0), .second, .val (.long q1), .second, .val (.long q2), .second, .val (.ref aB), .val (.ref aS), .val (.long lo), .second, .val (.long hi), .second, .val (.int (1 : Int32)), .val (.int (own_f3 aB aB q0 q1)), .val (.int (own_f3 aB aB q1 q0)), .val (.int (own_f3 aS aB q1 q0)), .val (.int (1 : Int32)), .val (.int (1 : Int32)), .val (.int (1 : Int32)), .val (.int (1 : Int32))] [(.int (1 : Int32))]))
        refine Go.s (fun kz => XS.ifNo X11.here hx rfl (hb hby at_179) rfl (XT.i0_eq_f (by decide)) kz) ?_
        show Go p.tables e below P (T11.setTop (mkF m 182 #[.val (.long q0), .second, .val (.long q1), .second, .val (.long q2), .second, .val (.ref aB), .val (.ref aS), .val (.long lo), .second, .val (.long hi), .second, .val (.int (1 : Int32)), .val (.int (own_f3 aB aB q0 q1)), .val (.int (own_f3 aB aB q1 q0)), .val (.int (own_f3 aS aB q1 q0)), .val (.int (1 : Int32)), .val (.int (1 : Int32)), .val (.int (1 : Int32)), .val (.int (1 : Int32))] []))
        refine Go.s (fun kz => XS.iload X11.here hx rfl (hb hby at_182) rfl kz) ?_
        show Go p.tables e below P (T11.setTop (mkF m 184 #[.val (.long q0), .second, .val (.long q1), .second, .val (.long q2), .second, .val (.ref aB), .val (.ref aS), .val (.long lo), .second, .val (.long hi), .second, .val (.int (1 : Int32)), .val (.int (own_f3 aB aB q0 q1)), .val (.int (own_f3 aB aB q1 q0)), .val (.int (own_f3 aS aB q1 q0)), .val (.int (1 : Int32)), .val (.int (1 : Int32)), .val (.int (1 : Int32)), .val (.int (1 : Int32))] [(.int (1 : Int32))]))
        refine Go.s (fun kz => XS.ifNo X11.here hx rfl (hb hby at_184) rfl (XT.i0_eq_f (by decide)) kz) ?_
        show Go p.tables e below P (T11.setTop (mkF m 187 #[.val (.long q0), .second, .val (.long q1), .second, .val (.long q2), .second, .val (.ref aB), .val (.ref aS), .val (.long lo), .second, .val (.long hi), .second, .val (.int (1 : Int32)), .val (.int (own_f3 aB aB q0 q1)), .val (.int (own_f3 aB aB q1 q0)), .val (.int (own_f3 aS aB q1 q0)), .val (.int (1 : Int32)), .val (.int (1 : Int32)), .val (.int (1 : Int32)), .val (.int (1 : Int32))] []))
        refine Go.s (fun kz => XS.iload X11.here hx rfl (hb hby at_187) rfl kz) ?_
        show Go p.tables e below P (T11.setTop (mkF m 189 #[.val (.long q0), .second, .val (.long q1), .second, .val (.long q2), .second, .val (.ref aB), .val (.ref aS), .val (.long lo), .second, .val (.long hi), .second, .val (.int (1 : Int32)), .val (.int (own_f3 aB aB q0 q1)), .val (.int (own_f3 aB aB q1 q0)), .val (.int (own_f3 aS aB q1 q0)), .val (.int (1 : Int32)), .val (.int (1 : Int32)), .val (.int (1 : Int32)), .val (.int (1 : Int32))] [(.int (1 : Int32))]))
        refine Go.s (fun kz => XS.ifNo X11.here hx rfl (hb hby at_189) rfl (XT.i0_eq_f (by decide)) kz) ?_
        show Go p.tables e below P (T11.setTop (mkF m 192 #[.val (.long q0), .second, .val (.long q1), .second, .val (.long q2), .second, .val (.ref aB), .val (.ref aS), .val (.long lo), .second, .val (.long hi), .second, .val (.int (1 : Int32)), .val (.int (own_f3 aB aB q0 q1)), .val (.int (own_f3 aB aB q1 q0)), .val (.int (own_f3 aS aB q1 q0)), .val (.int (1 : Int32)), .val (.int (1 : Int32)), .val (.int (1 : Int32)), .val (.int (1 : Int32))] []))
        refine Go.s (fun kz => XS.iload X11.here hx rfl (hb hby at_192) rfl kz) ?_
        show Go p.tables e below P (T11.setTop (mkF m 194 #[.val (.long q0), .second, .val (.long q1), .second, .val (.long q2), .second, .val (.ref aB), .val (.ref aS), .val (.long lo), .second, .val (.long hi), .second, .val (.int (1 : Int32)), .val (.int (own_f3 aB aB q0 q1)), .val (.int (own_f3 aB aB q1 q0)), .val (.int (own_f3 aS aB q1 q0)), .val (.int (1 : Int32)), .val (.int (1 : Int32)), .val (.int (1 : Int32)), .val (.int (1 : Int32))] [(.int (1 : Int32))]))
        refine Go.s (fun kz => XS.ifNo X11.here hx rfl (hb hby at_194) rfl (XT.i0_eq_f (by decide)) kz) ?_
        show Go p.tables e below P (T11.setTop (mkF m 197 #[.val (.long q0), .second, .val (.long q1), .second, .val (.long q2), .second, .val (.ref aB), .val (.ref aS), .val (.long lo), .second, .val (.long hi), .second, .val (.int (1 : Int32)), .val (.int (own_f3 aB aB q0 q1)), .val (.int (own_f3 aB aB q1 q0)), .val (.int (own_f3 aS aB q1 q0)), .val (.int (1 : Int32)), .val (.int (1 : Int32)), .val (.int (1 : Int32)), .val (.int (1 : Int32))] []))
        refine Go.s (fun kz => XS.iconst X11.here hx rfl (hb hby at_197) kz) ?_
        show Go p.tables e below P (T11.setTop (mkF m 198 #[.val (.long q0), .second, .val (.long q1), .second, .val (.long q2), .second, .val (.ref aB), .val (.ref aS), .val (.long lo), .second, .val (.long hi), .second, .val (.int (1 : Int32)), .val (.int (own_f3 aB aB q0 q1)), .val (.int (own_f3 aB aB q1 q0)), .val (.int (own_f3 aS aB q1 q0)), .val (.int (1 : Int32)), .val (.int (1 : Int32)), .val (.int (1 : Int32)), .val (.int (1 : Int32))] [(.int (1 : Int32))]))
        refine Go.s (fun kz => XS.goto X11.here hx rfl (pc0 := 198) (pc' := 202) rfl (hb hby at_198) (by decide) (by decide) kz) ?_
        show Go p.tables e below P (T11.setTop (mkF m 202 #[.val (.long q0), .second, .val (.long q1), .second, .val (.long q2), .second, .val (.ref aB), .val (.ref aS), .val (.long lo), .second, .val (.long hi), .second, .val (.int (1 : Int32)), .val (.int (own_f3 aB aB q0 q1)), .val (.int (own_f3 aB aB q1 q0)), .val (.int (own_f3 aS aB q1 q0)), .val (.int (1 : Int32)), .val (.int (1 : Int32)), .val (.int (1 : Int32)), .val (.int (1 : Int32))] [(.int (1 : Int32))]))
        exact Go.retZ X11 hx hlk hret (by decide) (hb hby at_202) (fun U hU hF => hP U _ _ ⟨rfl, N11⟩ ⟨hF.1, hF.2.1, hF.2.2.mono (by decide) (by decide)⟩)
      · skip
        refine Go.s (fun kz => XS.ifNo X11.here hx rfl (hb hby at_151) rfl (XT.i0_eq_f hc151) kz) ?_
        show Go p.tables e below P (T11.setTop (mkF m 154 #[.val (.long q0), .second, .val (.long q1), .second, .val (.long q2), .second, .val (.ref aB), .val (.ref aS), .val (.long lo), .second, .val (.long hi), .second, .val (.int (1 : Int32)), .val (.int (own_f3 aB aB q0 q1)), .val (.int (own_f3 aB aB q1 q0)), .val (.int (own_f3 aS aB q1 q0)), .val (.int (1 : Int32)), .val (.int (1 : Int32)), .val (.int (1 : Int32)), .unset] []))
        refine Go.s (fun kz => XS.aload X11.here hx rfl (hb hby at_154) rfl rfl kz) ?_
        show Go p.tables e below P (T11.setTop (mkF m 156 #[.val (.long q0), .second, .val (.long q1), .second, .val (.long q2), .second, .val (.ref aB), .val (.ref aS), .val (.long lo), .second, .val (.long hi), .second, .val (.int (1 : Int32)), .val (.int (own_f3 aB aB q0 q1)), .val (.int (own_f3 aB aB q1 q0)), .val (.int (own_f3 aS aB q1 q0)), .val (.int (1 : Int32)), .val (.int (1 : Int32)), .val (.int (1 : Int32)), .unset] [(.ref aS)]))
        refine Go.s (fun kz => XT.lloadN X11.here hx rfl (hb hby at_156) rfl kz) ?_
        show Go p.tables e below P (T11.setTop (mkF m 157 #[.val (.long q0), .second, .val (.long q1), .second, .val (.long q2), .second, .val (.ref aB), .val (.ref aS), .val (.long lo), .second, .val (.long hi), .second, .val (.int (1 : Int32)), .val (.int (own_f3 aB aB q0 q1)), .val (.int (own_f3 aB aB q1 q0)), .val (.int (own_f3 aS aB q1 q0)), .val (.int (1 : Int32)), .val (.int (1 : Int32)), .val (.int (1 : Int32)), .unset] [(.long q0), (.ref aS)]))
        refine Go.s (fun kz => XT.lload X11.here hx rfl (hb hby at_157) rfl kz) ?_
        show Go p.tables e below P (T11.setTop (mkF m 159 #[.val (.long q0), .second, .val (.long q1), .second, .val (.long q2), .second, .val (.ref aB), .val (.ref aS), .val (.long lo), .second, .val (.long hi), .second, .val (.int (1 : Int32)), .val (.int (own_f3 aB aB q0 q1)), .val (.int (own_f3 aB aB q1 q0)), .val (.int (own_f3 aS aB q1 q0)), .val (.int (1 : Int32)), .val (.int (1 : Int32)), .val (.int (1 : Int32)), .unset] [(.long hi), (.long q0), (.ref aS)]))
        obtain ⟨v12, T12, L12, X12, Q12, st12⟩ := Con.virtual (own_rm3 l Z a0 hw [] aS q0 hi aB h0 n0 Z0 S_BUY ) X11 hx hZ (W := 0) hown (hw _ (List.mem_of_getElem? (i := 12) rfl)) (hw _ (List.mem_of_getElem? (i := 13) rfl)) (hw _ (List.mem_of_getElem? (i := 15) rfl)) (hw _ (List.mem_of_getElem? (i := 14) rfl)) (hw _ (List.mem_of_getElem? (i := 1) rfl)) (hw _ (List.mem_of_getElem? (i := 16) rfl)) (by decide) (by decide) (by decide) (by decide) (by decide) e11 (g := (mkF m 159 #[.val (.long q0), .second, .val (.long q1), .second, .val (.long q2), .second, .val (.ref aB), .val (.ref aS), .val (.long lo), .second, .val (.long hi), .second, .val (.int (1 : Int32)), .val (.int (own_f3 aB aB q0 q1)), .val (.int (own_f3 aB aB q1 q0)), .val (.int (own_f3 aS aB q1 q0)), .val (.int (1 : Int32)), .val (.int (1 : Int32)), .val (.int (1 : Int32)), .unset] [(.long hi), (.long q0), (.ref aS)])) rfl (by rw [hml]; rfl) E_SELL (argsL := [(.long q0), (.long hi)]) (rest := []) rfl (lenOf own_pd_1 rfl) rfl (by show 2 * 0 + _ ≤ _; exact Nat.le_of_eq rfl) (hb hby at_159)
        obtain ⟨rfl, Nq12, e12⟩ := Q12
        have N12 := Fr.app N11 Nq12
        refine Go.s (fun {t} => st12) ?_
        show Go p.tables e below P (T12.setTop (mkF m 162 #[.val (.long q0), .second, .val (.long q1), .second, .val (.long q2), .second, .val (.ref aB), .val (.ref aS), .val (.long lo), .second, .val (.long hi), .second, .val (.int (1 : Int32)), .val (.int (own_f3 aB aB q0 q1)), .val (.int (own_f3 aB aB q1 q0)), .val (.int (own_f3 aS aB q1 q0)), .val (.int (1 : Int32)), .val (.int (1 : Int32)), .val (.int (1 : Int32)), .unset] [(.int (own_f3 aS aB q0 hi))]))
        refine Go.s (fun kz => XS.ifNo X12.here hx rfl (hb hby at_162) rfl (XT.i0_eq_f (own_sm aS aB neBS q0 lo hi hlh hc151)) kz) ?_
        show Go p.tables e below P (T12.setTop (mkF m 165 #[.val (.long q0), .second, .val (.long q1), .second, .val (.long q2), .second, .val (.ref aB), .val (.ref aS), .val (.long lo), .second, .val (.long hi), .second, .val (.int (1 : Int32)), .val (.int (own_f3 aB aB q0 q1)), .val (.int (own_f3 aB aB q1 q0)), .val (.int (own_f3 aS aB q1 q0)), .val (.int (1 : Int32)), .val (.int (1 : Int32)), .val (.int (1 : Int32)), .unset] []))
        refine Go.s (fun kz => XS.iconst X12.here hx rfl (hb hby at_165) kz) ?_
        show Go p.tables e below P (T12.setTop (mkF m 166 #[.val (.long q0), .second, .val (.long q1), .second, .val (.long q2), .second, .val (.ref aB), .val (.ref aS), .val (.long lo), .second, .val (.long hi), .second, .val (.int (1 : Int32)), .val (.int (own_f3 aB aB q0 q1)), .val (.int (own_f3 aB aB q1 q0)), .val (.int (own_f3 aS aB q1 q0)), .val (.int (1 : Int32)), .val (.int (1 : Int32)), .val (.int (1 : Int32)), .unset] [(.int (1 : Int32))]))
        refine Go.s (fun kz => XS.goto X12.here hx rfl (pc0 := 166) (pc' := 170) rfl (hb hby at_166) (by decide) (by decide) kz) ?_
        show Go p.tables e below P (T12.setTop (mkF m 170 #[.val (.long q0), .second, .val (.long q1), .second, .val (.long q2), .second, .val (.ref aB), .val (.ref aS), .val (.long lo), .second, .val (.long hi), .second, .val (.int (1 : Int32)), .val (.int (own_f3 aB aB q0 q1)), .val (.int (own_f3 aB aB q1 q0)), .val (.int (own_f3 aS aB q1 q0)), .val (.int (1 : Int32)), .val (.int (1 : Int32)), .val (.int (1 : Int32)), .unset] [(.int (1 : Int32))]))
        refine Go.s (fun kz => XS.istore X12.here hx rfl (hb hby at_170) rfl (l' := #[.val (.long q0), .second, .val (.long q1), .second, .val (.long q2), .second, .val (.ref aB), .val (.ref aS), .val (.long lo), .second, .val (.long hi), .second, .val (.int (1 : Int32)), .val (.int (own_f3 aB aB q0 q1)), .val (.int (own_f3 aB aB q1 q0)), .val (.int (own_f3 aS aB q1 q0)), .val (.int (1 : Int32)), .val (.int (1 : Int32)), .val (.int (1 : Int32)), .val (.int (1 : Int32))]) rfl kz) ?_
        show Go p.tables e below P (T12.setTop (mkF m 172 #[.val (.long q0), .second, .val (.long q1), .second, .val (.long q2), .second, .val (.ref aB), .val (.ref aS), .val (.long lo), .second, .val (.long hi), .second, .val (.int (1 : Int32)), .val (.int (own_f3 aB aB q0 q1)), .val (.int (own_f3 aB aB q1 q0)), .val (.int (own_f3 aS aB q1 q0)), .val (.int (1 : Int32)), .val (.int (1 : Int32)), .val (.int (1 : Int32)), .val (.int (1 : Int32))] []))
        refine Go.s (fun kz => XS.iload X12.here hx rfl (hb hby at_172) rfl kz) ?_
        show Go p.tables e below P (T12.setTop (mkF m 174 #[.val (.long q0), .second, .val (.long q1), .second, .val (.long q2), .second, .val (.ref aB), .val (.ref aS), .val (.long lo), .second, .val (.long hi), .second, .val (.int (1 : Int32)), .val (.int (own_f3 aB aB q0 q1)), .val (.int (own_f3 aB aB q1 q0)), .val (.int (own_f3 aS aB q1 q0)), .val (.int (1 : Int32)), .val (.int (1 : Int32)), .val (.int (1 : Int32)), .val (.int (1 : Int32))] [(.int (1 : Int32))]))
        refine Go.s (fun kz => XS.ifNo X12.here hx rfl (hb hby at_174) rfl (XT.i0_eq_f (by decide)) kz) ?_
        show Go p.tables e below P (T12.setTop (mkF m 177 #[.val (.long q0), .second, .val (.long q1), .second, .val (.long q2), .second, .val (.ref aB), .val (.ref aS), .val (.long lo), .second, .val (.long hi), .second, .val (.int (1 : Int32)), .val (.int (own_f3 aB aB q0 q1)), .val (.int (own_f3 aB aB q1 q0)), .val (.int (own_f3 aS aB q1 q0)), .val (.int (1 : Int32)), .val (.int (1 : Int32)), .val (.int (1 : Int32)), .val (.int (1 : Int32))] []))
        refine Go.s (fun kz => XS.iload X12.here hx rfl (hb hby at_177) rfl kz) ?_
        show Go p.tables e below P (T12.setTop (mkF m 179 #[.val (.long q0), .second, .val (.long q1), .second, .val (.long q2), .second, .val (.ref aB), .val (.ref aS), .val (.long lo), .second, .val (.long hi), .second, .val (.int (1 : Int32)), .val (.int (own_f3 aB aB q0 q1)), .val (.int (own_f3 aB aB q1 q0)), .val (.int (own_f3 aS aB q1 q0)), .val (.int (1 : Int32)), .val (.int (1 : Int32)), .val (.int (1 : Int32)), .val (.int (1 : Int32))] [(.int (1 : Int32))]))
        refine Go.s (fun kz => XS.ifNo X12.here hx rfl (hb hby at_179) rfl (XT.i0_eq_f (by decide)) kz) ?_
        show Go p.tables e below P (T12.setTop (mkF m 182 #[.val (.long q0), .second, .val (.long q1), .second, .val (.long q2), .second, .val (.ref aB), .val (.ref aS), .val (.long lo), .second, .val (.long hi), .second, .val (.int (1 : Int32)), .val (.int (own_f3 aB aB q0 q1)), .val (.int (own_f3 aB aB q1 q0)), .val (.int (own_f3 aS aB q1 q0)), .val (.int (1 : Int32)), .val (.int (1 : Int32)), .val (.int (1 : Int32)), .val (.int (1 : Int32))] []))
        refine Go.s (fun kz => XS.iload X12.here hx rfl (hb hby at_182) rfl kz) ?_
        show Go p.tables e below P (T12.setTop (mkF m 184 #[.val (.long q0), .second, .val (.long q1), .second, .val (.long q2), .second, .val (.ref aB), .val (.ref aS), .val (.long lo), .second, .val (.long hi), .second, .val (.int (1 : Int32)), .val (.int (own_f3 aB aB q0 q1)), .val (.int (own_f3 aB aB q1 q0)), .val (.int (own_f3 aS aB q1 q0)), .val (.int (1 : Int32)), .val (.int (1 : Int32)), .val (.int (1 : Int32)), .val (.int (1 : Int32))] [(.int (1 : Int32))]))
        refine Go.s (fun kz => XS.ifNo X12.here hx rfl (hb hby at_184) rfl (XT.i0_eq_f (by decide)) kz) ?_
        show Go p.tables e below P (T12.setTop (mkF m 187 #[.val (.long q0), .second, .val (.long q1), .second, .val (.long q2), .second, .val (.ref aB), .val (.ref aS), .val (.long lo), .second, .val (.long hi), .second, .val (.int (1 : Int32)), .val (.int (own_f3 aB aB q0 q1)), .val (.int (own_f3 aB aB q1 q0)), .val (.int (own_f3 aS aB q1 q0)), .val (.int (1 : Int32)), .val (.int (1 : Int32)), .val (.int (1 : Int32)), .val (.int (1 : Int32))] []))
        refine Go.s (fun kz => XS.iload X12.here hx rfl (hb hby at_187) rfl kz) ?_
        show Go p.tables e below P (T12.setTop (mkF m 189 #[.val (.long q0), .second, .val (.long q1), .second, .val (.long q2), .second, .val (.ref aB), .val (.ref aS), .val (.long lo), .second, .val (.long hi), .second, .val (.int (1 : Int32)), .val (.int (own_f3 aB aB q0 q1)), .val (.int (own_f3 aB aB q1 q0)), .val (.int (own_f3 aS aB q1 q0)), .val (.int (1 : Int32)), .val (.int (1 : Int32)), .val (.int (1 : Int32)), .val (.int (1 : Int32))] [(.int (1 : Int32))]))
        refine Go.s (fun kz => XS.ifNo X12.here hx rfl (hb hby at_189) rfl (XT.i0_eq_f (by decide)) kz) ?_
        show Go p.tables e below P (T12.setTop (mkF m 192 #[.val (.long q0), .second, .val (.long q1), .second, .val (.long q2), .second, .val (.ref aB), .val (.ref aS), .val (.long lo), .second, .val (.long hi), .second, .val (.int (1 : Int32)), .val (.int (own_f3 aB aB q0 q1)), .val (.int (own_f3 aB aB q1 q0)), .val (.int (own_f3 aS aB q1 q0)), .val (.int (1 : Int32)), .val (.int (1 : Int32)), .val (.int (1 : Int32)), .val (.int (1 : Int32))] []))
        refine Go.s (fun kz => XS.iload X12.here hx rfl (hb hby at_192) rfl kz) ?_
        show Go p.tables e below P (T12.setTop (mkF m 194 #[.val (.long q0), .second, .val (.long q1), .second, .val (.long q2), .second, .val (.ref aB), .val (.ref aS), .val (.long lo), .second, .val (.long hi), .second, .val (.int (1 : Int32)), .val (.int (own_f3 aB aB q0 q1)), .val (.int (own_f3 aB aB q1 q0)), .val (.int (own_f3 aS aB q1 q0)), .val (.int (1 : Int32)), .val (.int (1 : Int32)), .val (.int (1 : Int32)), .val (.int (1 : Int32))] [(.int (1 : Int32))]))
        refine Go.s (fun kz => XS.ifNo X12.here hx rfl (hb hby at_194) rfl (XT.i0_eq_f (by decide)) kz) ?_
        show Go p.tables e below P (T12.setTop (mkF m 197 #[.val (.long q0), .second, .val (.long q1), .second, .val (.long q2), .second, .val (.ref aB), .val (.ref aS), .val (.long lo), .second, .val (.long hi), .second, .val (.int (1 : Int32)), .val (.int (own_f3 aB aB q0 q1)), .val (.int (own_f3 aB aB q1 q0)), .val (.int (own_f3 aS aB q1 q0)), .val (.int (1 : Int32)), .val (.int (1 : Int32)), .val (.int (1 : Int32)), .val (.int (1 : Int32))] []))
        refine Go.s (fun kz => XS.iconst X12.here hx rfl (hb hby at_197) kz) ?_
        show Go p.tables e below P (T12.setTop (mkF m 198 #[.val (.long q0), .second, .val (.long q1), .second, .val (.long q2), .second, .val (.ref aB), .val (.ref aS), .val (.long lo), .second, .val (.long hi), .second, .val (.int (1 : Int32)), .val (.int (own_f3 aB aB q0 q1)), .val (.int (own_f3 aB aB q1 q0)), .val (.int (own_f3 aS aB q1 q0)), .val (.int (1 : Int32)), .val (.int (1 : Int32)), .val (.int (1 : Int32)), .val (.int (1 : Int32))] [(.int (1 : Int32))]))
        refine Go.s (fun kz => XS.goto X12.here hx rfl (pc0 := 198) (pc' := 202) rfl (hb hby at_198) (by decide) (by decide) kz) ?_
        show Go p.tables e below P (T12.setTop (mkF m 202 #[.val (.long q0), .second, .val (.long q1), .second, .val (.long q2), .second, .val (.ref aB), .val (.ref aS), .val (.long lo), .second, .val (.long hi), .second, .val (.int (1 : Int32)), .val (.int (own_f3 aB aB q0 q1)), .val (.int (own_f3 aB aB q1 q0)), .val (.int (own_f3 aS aB q1 q0)), .val (.int (1 : Int32)), .val (.int (1 : Int32)), .val (.int (1 : Int32)), .val (.int (1 : Int32))] [(.int (1 : Int32))]))
        exact Go.retZ X12 hx hlk hret (by decide) (hb hby at_202) (fun U hU hF => hP U _ _ ⟨rfl, N12⟩ ⟨hF.1, hF.2.1, hF.2.2.mono (by decide) (by decide)⟩)
    · skip
      refine Go.s (fun kz => XS.ifNo X10.here hx rfl (hb hby at_122) rfl (XT.i0_eq_f hc122) kz) ?_
      show Go p.tables e below P (T10.setTop (mkF m 125 #[.val (.long q0), .second, .val (.long q1), .second, .val (.long q2), .second, .val (.ref aB), .val (.ref aS), .val (.long lo), .second, .val (.long hi), .second, .val (.int (1 : Int32)), .val (.int (own_f3 aB aB q0 q1)), .val (.int (own_f3 aB aB q1 q0)), .val (.int (own_f3 aS aB q1 q0)), .val (.int (1 : Int32)), .val (.int (1 : Int32)), .unset, .unset] []))
      refine Go.s (fun kz => XS.aload X10.here hx rfl (hb hby at_125) rfl rfl kz) ?_
      show Go p.tables e below P (T10.setTop (mkF m 127 #[.val (.long q0), .second, .val (.long q1), .second, .val (.long q2), .second, .val (.ref aB), .val (.ref aS), .val (.long lo), .second, .val (.long hi), .second, .val (.int (1 : Int32)), .val (.int (own_f3 aB aB q0 q1)), .val (.int (own_f3 aB aB q1 q0)), .val (.int (own_f3 aS aB q1 q0)), .val (.int (1 : Int32)), .val (.int (1 : Int32)), .unset, .unset] [(.ref aB)]))
      refine Go.s (fun kz => XT.lloadN X10.here hx rfl (hb hby at_127) rfl kz) ?_
      show Go p.tables e below P (T10.setTop (mkF m 128 #[.val (.long q0), .second, .val (.long q1), .second, .val (.long q2), .second, .val (.ref aB), .val (.ref aS), .val (.long lo), .second, .val (.long hi), .second, .val (.int (1 : Int32)), .val (.int (own_f3 aB aB q0 q1)), .val (.int (own_f3 aB aB q1 q0)), .val (.int (own_f3 aS aB q1 q0)), .val (.int (1 : Int32)), .val (.int (1 : Int32)), .unset, .unset] [(.long q0), (.ref aB)]))
      refine Go.s (fun kz => XT.lload X10.here hx rfl (hb hby at_128) rfl kz) ?_
      show Go p.tables e below P (T10.setTop (mkF m 130 #[.val (.long q0), .second, .val (.long q1), .second, .val (.long q2), .second, .val (.ref aB), .val (.ref aS), .val (.long lo), .second, .val (.long hi), .second, .val (.int (1 : Int32)), .val (.int (own_f3 aB aB q0 q1)), .val (.int (own_f3 aB aB q1 q0)), .val (.int (own_f3 aS aB q1 q0)), .val (.int (1 : Int32)), .val (.int (1 : Int32)), .unset, .unset] [(.long lo), (.long q0), (.ref aB)]))
      obtain ⟨v13, T13, L13, X13, Q13, st13⟩ := Con.virtual (own_rm3 l Z a0 hw [] aB q0 lo aB h0 n0 Z0 S_BUY ) X10 hx hZ (W := 0) hown (hw _ (List.mem_of_getElem? (i := 12) rfl)) (hw _ (List.mem_of_getElem? (i := 13) rfl)) (hw _ (List.mem_of_getElem? (i := 15) rfl)) (hw _ (List.mem_of_getElem? (i := 14) rfl)) (hw _ (List.mem_of_getElem? (i := 1) rfl)) (hw _ (List.mem_of_getElem? (i := 16) rfl)) (by decide) (by decide) (by decide) (by decide) (by decide) e10 (g := (mkF m 130 #[.val (.long q0), .second, .val (.long q1), .second, .val (.long q2), .second, .val (.ref aB), .val (.ref aS), .val (.long lo), .second, .val (.long hi), .second, .val (.int (1 : Int32)), .val (.int (own_f3 aB aB q0 q1)), .val (.int (own_f3 aB aB q1 q0)), .val (.int (own_f3 aS aB q1 q0)), .val (.int (1 : Int32)), .val (.int (1 : Int32)), .unset, .unset] [(.long lo), (.long q0), (.ref aB)])) rfl (by rw [hml]; rfl) E_BUY (argsL := [(.long q0), (.long lo)]) (rest := []) rfl (lenOf own_pd_1 rfl) rfl (by show 2 * 0 + _ ≤ _; exact Nat.le_of_eq rfl) (hb hby at_130)
      obtain ⟨rfl, Nq13, e13⟩ := Q13
      have N13 := Fr.app N10 Nq13
      refine Go.s (fun {t} => st13) ?_
      show Go p.tables e below P (T13.setTop (mkF m 133 #[.val (.long q0), .second, .val (.long q1), .second, .val (.long q2), .second, .val (.ref aB), .val (.ref aS), .val (.long lo), .second, .val (.long hi), .second, .val (.int (1 : Int32)), .val (.int (own_f3 aB aB q0 q1)), .val (.int (own_f3 aB aB q1 q0)), .val (.int (own_f3 aS aB q1 q0)), .val (.int (1 : Int32)), .val (.int (1 : Int32)), .unset, .unset] [(.int (own_f3 aB aB q0 lo))]))
      refine Go.s (fun kz => XS.ifNo X13.here hx rfl (hb hby at_133) rfl (XT.i0_eq_f (own_bm aB q0 lo hi hlh hc122)) kz) ?_
      show Go p.tables e below P (T13.setTop (mkF m 136 #[.val (.long q0), .second, .val (.long q1), .second, .val (.long q2), .second, .val (.ref aB), .val (.ref aS), .val (.long lo), .second, .val (.long hi), .second, .val (.int (1 : Int32)), .val (.int (own_f3 aB aB q0 q1)), .val (.int (own_f3 aB aB q1 q0)), .val (.int (own_f3 aS aB q1 q0)), .val (.int (1 : Int32)), .val (.int (1 : Int32)), .unset, .unset] []))
      refine Go.s (fun kz => XS.iconst X13.here hx rfl (hb hby at_136) kz) ?_
      show Go p.tables e below P (T13.setTop (mkF m 137 #[.val (.long q0), .second, .val (.long q1), .second, .val (.long q2), .second, .val (.ref aB), .val (.ref aS), .val (.long lo), .second, .val (.long hi), .second, .val (.int (1 : Int32)), .val (.int (own_f3 aB aB q0 q1)), .val (.int (own_f3 aB aB q1 q0)), .val (.int (own_f3 aS aB q1 q0)), .val (.int (1 : Int32)), .val (.int (1 : Int32)), .unset, .unset] [(.int (1 : Int32))]))
      refine Go.s (fun kz => XS.goto X13.here hx rfl (pc0 := 137) (pc' := 141) rfl (hb hby at_137) (by decide) (by decide) kz) ?_
      show Go p.tables e below P (T13.setTop (mkF m 141 #[.val (.long q0), .second, .val (.long q1), .second, .val (.long q2), .second, .val (.ref aB), .val (.ref aS), .val (.long lo), .second, .val (.long hi), .second, .val (.int (1 : Int32)), .val (.int (own_f3 aB aB q0 q1)), .val (.int (own_f3 aB aB q1 q0)), .val (.int (own_f3 aS aB q1 q0)), .val (.int (1 : Int32)), .val (.int (1 : Int32)), .unset, .unset] [(.int (1 : Int32))]))
      refine Go.s (fun kz => XS.istore X13.here hx rfl (hb hby at_141) rfl (l' := #[.val (.long q0), .second, .val (.long q1), .second, .val (.long q2), .second, .val (.ref aB), .val (.ref aS), .val (.long lo), .second, .val (.long hi), .second, .val (.int (1 : Int32)), .val (.int (own_f3 aB aB q0 q1)), .val (.int (own_f3 aB aB q1 q0)), .val (.int (own_f3 aS aB q1 q0)), .val (.int (1 : Int32)), .val (.int (1 : Int32)), .val (.int (1 : Int32)), .unset]) rfl kz) ?_
      show Go p.tables e below P (T13.setTop (mkF m 143 #[.val (.long q0), .second, .val (.long q1), .second, .val (.long q2), .second, .val (.ref aB), .val (.ref aS), .val (.long lo), .second, .val (.long hi), .second, .val (.int (1 : Int32)), .val (.int (own_f3 aB aB q0 q1)), .val (.int (own_f3 aB aB q1 q0)), .val (.int (own_f3 aS aB q1 q0)), .val (.int (1 : Int32)), .val (.int (1 : Int32)), .val (.int (1 : Int32)), .unset] []))
      refine Go.s (fun kz => XS.aload X13.here hx rfl (hb hby at_143) rfl rfl kz) ?_
      show Go p.tables e below P (T13.setTop (mkF m 145 #[.val (.long q0), .second, .val (.long q1), .second, .val (.long q2), .second, .val (.ref aB), .val (.ref aS), .val (.long lo), .second, .val (.long hi), .second, .val (.int (1 : Int32)), .val (.int (own_f3 aB aB q0 q1)), .val (.int (own_f3 aB aB q1 q0)), .val (.int (own_f3 aS aB q1 q0)), .val (.int (1 : Int32)), .val (.int (1 : Int32)), .val (.int (1 : Int32)), .unset] [(.ref aS)]))
      refine Go.s (fun kz => XT.lloadN X13.here hx rfl (hb hby at_145) rfl kz) ?_
      show Go p.tables e below P (T13.setTop (mkF m 146 #[.val (.long q0), .second, .val (.long q1), .second, .val (.long q2), .second, .val (.ref aB), .val (.ref aS), .val (.long lo), .second, .val (.long hi), .second, .val (.int (1 : Int32)), .val (.int (own_f3 aB aB q0 q1)), .val (.int (own_f3 aB aB q1 q0)), .val (.int (own_f3 aS aB q1 q0)), .val (.int (1 : Int32)), .val (.int (1 : Int32)), .val (.int (1 : Int32)), .unset] [(.long q0), (.ref aS)]))
      refine Go.s (fun kz => XT.lload X13.here hx rfl (hb hby at_146) rfl kz) ?_
      show Go p.tables e below P (T13.setTop (mkF m 148 #[.val (.long q0), .second, .val (.long q1), .second, .val (.long q2), .second, .val (.ref aB), .val (.ref aS), .val (.long lo), .second, .val (.long hi), .second, .val (.int (1 : Int32)), .val (.int (own_f3 aB aB q0 q1)), .val (.int (own_f3 aB aB q1 q0)), .val (.int (own_f3 aS aB q1 q0)), .val (.int (1 : Int32)), .val (.int (1 : Int32)), .val (.int (1 : Int32)), .unset] [(.long lo), (.long q0), (.ref aS)]))
      obtain ⟨v14, T14, L14, X14, Q14, st14⟩ := Con.virtual (own_rm3 l Z a0 hw [] aS q0 lo aB h0 n0 Z0 S_BUY ) X13 hx hZ (W := 0) hown (hw _ (List.mem_of_getElem? (i := 12) rfl)) (hw _ (List.mem_of_getElem? (i := 13) rfl)) (hw _ (List.mem_of_getElem? (i := 15) rfl)) (hw _ (List.mem_of_getElem? (i := 14) rfl)) (hw _ (List.mem_of_getElem? (i := 1) rfl)) (hw _ (List.mem_of_getElem? (i := 16) rfl)) (by decide) (by decide) (by decide) (by decide) (by decide) e13 (g := (mkF m 148 #[.val (.long q0), .second, .val (.long q1), .second, .val (.long q2), .second, .val (.ref aB), .val (.ref aS), .val (.long lo), .second, .val (.long hi), .second, .val (.int (1 : Int32)), .val (.int (own_f3 aB aB q0 q1)), .val (.int (own_f3 aB aB q1 q0)), .val (.int (own_f3 aS aB q1 q0)), .val (.int (1 : Int32)), .val (.int (1 : Int32)), .val (.int (1 : Int32)), .unset] [(.long lo), (.long q0), (.ref aS)])) rfl (by rw [hml]; rfl) E_SELL (argsL := [(.long q0), (.long lo)]) (rest := []) rfl (lenOf own_pd_1 rfl) rfl (by show 2 * 0 + _ ≤ _; exact Nat.le_of_eq rfl) (hb hby at_148)
      obtain ⟨rfl, Nq14, e14⟩ := Q14
      have N14 := Fr.app N13 Nq14
      refine Go.s (fun {t} => st14) ?_
      show Go p.tables e below P (T14.setTop (mkF m 151 #[.val (.long q0), .second, .val (.long q1), .second, .val (.long q2), .second, .val (.ref aB), .val (.ref aS), .val (.long lo), .second, .val (.long hi), .second, .val (.int (1 : Int32)), .val (.int (own_f3 aB aB q0 q1)), .val (.int (own_f3 aB aB q1 q0)), .val (.int (own_f3 aS aB q1 q0)), .val (.int (1 : Int32)), .val (.int (1 : Int32)), .val (.int (1 : Int32)), .unset] [(.int (own_f3 aS aB q0 lo))]))
      by_cases hc151 : (own_f3 aS aB q0 lo) = 0
      · skip
        refine Go.s (fun kz => XS.ifYes X14.here hx rfl (pc0 := 151) (pc' := 165) rfl (hb hby at_151) rfl (XT.i0_eq_t hc151) (by decide) (by decide) kz) ?_
        show Go p.tables e below P (T14.setTop (mkF m 165 #[.val (.long q0), .second, .val (.long q1), .second, .val (.long q2), .second, .val (.ref aB), .val (.ref aS), .val (.long lo), .second, .val (.long hi), .second, .val (.int (1 : Int32)), .val (.int (own_f3 aB aB q0 q1)), .val (.int (own_f3 aB aB q1 q0)), .val (.int (own_f3 aS aB q1 q0)), .val (.int (1 : Int32)), .val (.int (1 : Int32)), .val (.int (1 : Int32)), .unset] []))
        refine Go.s (fun kz => XS.iconst X14.here hx rfl (hb hby at_165) kz) ?_
        show Go p.tables e below P (T14.setTop (mkF m 166 #[.val (.long q0), .second, .val (.long q1), .second, .val (.long q2), .second, .val (.ref aB), .val (.ref aS), .val (.long lo), .second, .val (.long hi), .second, .val (.int (1 : Int32)), .val (.int (own_f3 aB aB q0 q1)), .val (.int (own_f3 aB aB q1 q0)), .val (.int (own_f3 aS aB q1 q0)), .val (.int (1 : Int32)), .val (.int (1 : Int32)), .val (.int (1 : Int32)), .unset] [(.int (1 : Int32))]))
        refine Go.s (fun kz => XS.goto X14.here hx rfl (pc0 := 166) (pc' := 170) rfl (hb hby at_166) (by decide) (by decide) kz) ?_
        show Go p.tables e below P (T14.setTop (mkF m 170 #[.val (.long q0), .second, .val (.long q1), .second, .val (.long q2), .second, .val (.ref aB), .val (.ref aS), .val (.long lo), .second, .val (.long hi), .second, .val (.int (1 : Int32)), .val (.int (own_f3 aB aB q0 q1)), .val (.int (own_f3 aB aB q1 q0)), .val (.int (own_f3 aS aB q1 q0)), .val (.int (1 : Int32)), .val (.int (1 : Int32)), .val (.int (1 : Int32)), .unset] [(.int (1 : Int32))]))
        refine Go.s (fun kz => XS.istore X14.here hx rfl (hb hby at_170) rfl (l' := #[.val (.long q0), .second, .val (.long q1), .second, .val (.long q2), .second, .val (.ref aB), .val (.ref aS), .val (.long lo), .second, .val (.long hi), .second, .val (.int (1 : Int32)), .val (.int (own_f3 aB aB q0 q1)), .val (.int (own_f3 aB aB q1 q0)), .val (.int (own_f3 aS aB q1 q0)), .val (.int (1 : Int32)), .val (.int (1 : Int32)), .val (.int (1 : Int32)), .val (.int (1 : Int32))]) rfl kz) ?_
        show Go p.tables e below P (T14.setTop (mkF m 172 #[.val (.long q0), .second, .val (.long q1), .second, .val (.long q2), .second, .val (.ref aB), .val (.ref aS), .val (.long lo), .second, .val (.long hi), .second, .val (.int (1 : Int32)), .val (.int (own_f3 aB aB q0 q1)), .val (.int (own_f3 aB aB q1 q0)), .val (.int (own_f3 aS aB q1 q0)), .val (.int (1 : Int32)), .val (.int (1 : Int32)), .val (.int (1 : Int32)), .val (.int (1 : Int32))] []))
        refine Go.s (fun kz => XS.iload X14.here hx rfl (hb hby at_172) rfl kz) ?_
        show Go p.tables e below P (T14.setTop (mkF m 174 #[.val (.long q0), .second, .val (.long q1), .second, .val (.long q2), .second, .val (.ref aB), .val (.ref aS), .val (.long lo), .second, .val (.long hi), .second, .val (.int (1 : Int32)), .val (.int (own_f3 aB aB q0 q1)), .val (.int (own_f3 aB aB q1 q0)), .val (.int (own_f3 aS aB q1 q0)), .val (.int (1 : Int32)), .val (.int (1 : Int32)), .val (.int (1 : Int32)), .val (.int (1 : Int32))] [(.int (1 : Int32))]))
        refine Go.s (fun kz => XS.ifNo X14.here hx rfl (hb hby at_174) rfl (XT.i0_eq_f (by decide)) kz) ?_
        show Go p.tables e below P (T14.setTop (mkF m 177 #[.val (.long q0), .second, .val (.long q1), .second, .val (.long q2), .second, .val (.ref aB), .val (.ref aS), .val (.long lo), .second, .val (.long hi), .second, .val (.int (1 : Int32)), .val (.int (own_f3 aB aB q0 q1)), .val (.int (own_f3 aB aB q1 q0)), .val (.int (own_f3 aS aB q1 q0)), .val (.int (1 : Int32)), .val (.int (1 : Int32)), .val (.int (1 : Int32)), .val (.int (1 : Int32))] []))
        refine Go.s (fun kz => XS.iload X14.here hx rfl (hb hby at_177) rfl kz) ?_
        show Go p.tables e below P (T14.setTop (mkF m 179 #[.val (.long q0), .second, .val (.long q1), .second, .val (.long q2), .second, .val (.ref aB), .val (.ref aS), .val (.long lo), .second, .val (.long hi), .second, .val (.int (1 : Int32)), .val (.int (own_f3 aB aB q0 q1)), .val (.int (own_f3 aB aB q1 q0)), .val (.int (own_f3 aS aB q1 q0)), .val (.int (1 : Int32)), .val (.int (1 : Int32)), .val (.int (1 : Int32)), .val (.int (1 : Int32))] [(.int (1 : Int32))]))
        refine Go.s (fun kz => XS.ifNo X14.here hx rfl (hb hby at_179) rfl (XT.i0_eq_f (by decide)) kz) ?_
        show Go p.tables e below P (T14.setTop (mkF m 182 #[.val (.long q0), .second, .val (.long q1), .second, .val (.long q2), .second, .val (.ref aB), .val (.ref aS), .val (.long lo), .second, .val (.long hi), .second, .val (.int (1 : Int32)), .val (.int (own_f3 aB aB q0 q1)), .val (.int (own_f3 aB aB q1 q0)), .val (.int (own_f3 aS aB q1 q0)), .val (.int (1 : Int32)), .val (.int (1 : Int32)), .val (.int (1 : Int32)), .val (.int (1 : Int32))] []))
        refine Go.s (fun kz => XS.iload X14.here hx rfl (hb hby at_182) rfl kz) ?_
        show Go p.tables e below P (T14.setTop (mkF m 184 #[.val (.long q0), .second, .val (.long q1), .second, .val (.long q2), .second, .val (.ref aB), .val (.ref aS), .val (.long lo), .second, .val (.long hi), .second, .val (.int (1 : Int32)), .val (.int (own_f3 aB aB q0 q1)), .val (.int (own_f3 aB aB q1 q0)), .val (.int (own_f3 aS aB q1 q0)), .val (.int (1 : Int32)), .val (.int (1 : Int32)), .val (.int (1 : Int32)), .val (.int (1 : Int32))] [(.int (1 : Int32))]))
        refine Go.s (fun kz => XS.ifNo X14.here hx rfl (hb hby at_184) rfl (XT.i0_eq_f (by decide)) kz) ?_
        show Go p.tables e below P (T14.setTop (mkF m 187 #[.val (.long q0), .second, .val (.long q1), .second, .val (.long q2), .second, .val (.ref aB), .val (.ref aS), .val (.long lo), .second, .val (.long hi), .second, .val (.int (1 : Int32)), .val (.int (own_f3 aB aB q0 q1)), .val (.int (own_f3 aB aB q1 q0)), .val (.int (own_f3 aS aB q1 q0)), .val (.int (1 : Int32)), .val (.int (1 : Int32)), .val (.int (1 : Int32)), .val (.int (1 : Int32))] []))
        refine Go.s (fun kz => XS.iload X14.here hx rfl (hb hby at_187) rfl kz) ?_
        show Go p.tables e below P (T14.setTop (mkF m 189 #[.val (.long q0), .second, .val (.long q1), .second, .val (.long q2), .second, .val (.ref aB), .val (.ref aS), .val (.long lo), .second, .val (.long hi), .second, .val (.int (1 : Int32)), .val (.int (own_f3 aB aB q0 q1)), .val (.int (own_f3 aB aB q1 q0)), .val (.int (own_f3 aS aB q1 q0)), .val (.int (1 : Int32)), .val (.int (1 : Int32)), .val (.int (1 : Int32)), .val (.int (1 : Int32))] [(.int (1 : Int32))]))
        refine Go.s (fun kz => XS.ifNo X14.here hx rfl (hb hby at_189) rfl (XT.i0_eq_f (by decide)) kz) ?_
        show Go p.tables e below P (T14.setTop (mkF m 192 #[.val (.long q0), .second, .val (.long q1), .second, .val (.long q2), .second, .val (.ref aB), .val (.ref aS), .val (.long lo), .second, .val (.long hi), .second, .val (.int (1 : Int32)), .val (.int (own_f3 aB aB q0 q1)), .val (.int (own_f3 aB aB q1 q0)), .val (.int (own_f3 aS aB q1 q0)), .val (.int (1 : Int32)), .val (.int (1 : Int32)), .val (.int (1 : Int32)), .val (.int (1 : Int32))] []))
        refine Go.s (fun kz => XS.iload X14.here hx rfl (hb hby at_192) rfl kz) ?_
        show Go p.tables e below P (T14.setTop (mkF m 194 #[.val (.long q0), .second, .val (.long q1), .second, .val (.long q2), .second, .val (.ref aB), .val (.ref aS), .val (.long lo), .second, .val (.long hi), .second, .val (.int (1 : Int32)), .val (.int (own_f3 aB aB q0 q1)), .val (.int (own_f3 aB aB q1 q0)), .val (.int (own_f3 aS aB q1 q0)), .val (.int (1 : Int32)), .val (.int (1 : Int32)), .val (.int (1 : Int32)), .val (.int (1 : Int32))] [(.int (1 : Int32))]))
        refine Go.s (fun kz => XS.ifNo X14.here hx rfl (hb hby at_194) rfl (XT.i0_eq_f (by decide)) kz) ?_
        show Go p.tables e below P (T14.setTop (mkF m 197 #[.val (.long q0), .second, .val (.long q1), .second, .val (.long q2), .second, .val (.ref aB), .val (.ref aS), .val (.long lo), .second, .val (.long hi), .second, .val (.int (1 : Int32)), .val (.int (own_f3 aB aB q0 q1)), .val (.int (own_f3 aB aB q1 q0)), .val (.int (own_f3 aS aB q1 q0)), .val (.int (1 : Int32)), .val (.int (1 : Int32)), .val (.int (1 : Int32)), .val (.int (1 : Int32))] []))
        refine Go.s (fun kz => XS.iconst X14.here hx rfl (hb hby at_197) kz) ?_
        show Go p.tables e below P (T14.setTop (mkF m 198 #[.val (.long q0), .second, .val (.long q1), .second, .val (.long q2), .second, .val (.ref aB), .val (.ref aS), .val (.long lo), .second, .val (.long hi), .second, .val (.int (1 : Int32)), .val (.int (own_f3 aB aB q0 q1)), .val (.int (own_f3 aB aB q1 q0)), .val (.int (own_f3 aS aB q1 q0)), .val (.int (1 : Int32)), .val (.int (1 : Int32)), .val (.int (1 : Int32)), .val (.int (1 : Int32))] [(.int (1 : Int32))]))
        refine Go.s (fun kz => XS.goto X14.here hx rfl (pc0 := 198) (pc' := 202) rfl (hb hby at_198) (by decide) (by decide) kz) ?_
        show Go p.tables e below P (T14.setTop (mkF m 202 #[.val (.long q0), .second, .val (.long q1), .second, .val (.long q2), .second, .val (.ref aB), .val (.ref aS), .val (.long lo), .second, .val (.long hi), .second, .val (.int (1 : Int32)), .val (.int (own_f3 aB aB q0 q1)), .val (.int (own_f3 aB aB q1 q0)), .val (.int (own_f3 aS aB q1 q0)), .val (.int (1 : Int32)), .val (.int (1 : Int32)), .val (.int (1 : Int32)), .val (.int (1 : Int32))] [(.int (1 : Int32))]))
        exact Go.retZ X14 hx hlk hret (by decide) (hb hby at_202) (fun U hU hF => hP U _ _ ⟨rfl, N14⟩ ⟨hF.1, hF.2.1, hF.2.2.mono (by decide) (by decide)⟩)
      · skip
        refine Go.s (fun kz => XS.ifNo X14.here hx rfl (hb hby at_151) rfl (XT.i0_eq_f hc151) kz) ?_
        show Go p.tables e below P (T14.setTop (mkF m 154 #[.val (.long q0), .second, .val (.long q1), .second, .val (.long q2), .second, .val (.ref aB), .val (.ref aS), .val (.long lo), .second, .val (.long hi), .second, .val (.int (1 : Int32)), .val (.int (own_f3 aB aB q0 q1)), .val (.int (own_f3 aB aB q1 q0)), .val (.int (own_f3 aS aB q1 q0)), .val (.int (1 : Int32)), .val (.int (1 : Int32)), .val (.int (1 : Int32)), .unset] []))
        refine Go.s (fun kz => XS.aload X14.here hx rfl (hb hby at_154) rfl rfl kz) ?_
        show Go p.tables e below P (T14.setTop (mkF m 156 #[.val (.long q0), .second, .val (.long q1), .second, .val (.long q2), .second, .val (.ref aB), .val (.ref aS), .val (.long lo), .second, .val (.long hi), .second, .val (.int (1 : Int32)), .val (.int (own_f3 aB aB q0 q1)), .val (.int (own_f3 aB aB q1 q0)), .val (.int (own_f3 aS aB q1 q0)), .val (.int (1 : Int32)), .val (.int (1 : Int32)), .val (.int (1 : Int32)), .unset] [(.ref aS)]))
        refine Go.s (fun kz => XT.lloadN X14.here hx rfl (hb hby at_156) rfl kz) ?_
        show Go p.tables e below P (T14.setTop (mkF m 157 #[.val (.long q0), .second, .val (.long q1), .second, .val (.long q2), .second, .val (.ref aB), .val (.ref aS), .val (.long lo), .second, .val (.long hi), .second, .val (.int (1 : Int32)), .val (.int (own_f3 aB aB q0 q1)), .val (.int (own_f3 aB aB q1 q0)), .val (.int (own_f3 aS aB q1 q0)), .val (.int (1 : Int32)), .val (.int (1 : Int32)), .val (.int (1 : Int32)), .unset] [(.long q0), (.ref aS)]))
        refine Go.s (fun kz => XT.lload X14.here hx rfl (hb hby at_157) rfl kz) ?_
        show Go p.tables e below P (T14.setTop (mkF m 159 #[.val (.long q0), .second, .val (.long q1), .second, .val (.long q2), .second, .val (.ref aB), .val (.ref aS), .val (.long lo), .second, .val (.long hi), .second, .val (.int (1 : Int32)), .val (.int (own_f3 aB aB q0 q1)), .val (.int (own_f3 aB aB q1 q0)), .val (.int (own_f3 aS aB q1 q0)), .val (.int (1 : Int32)), .val (.int (1 : Int32)), .val (.int (1 : Int32)), .unset] [(.long hi), (.long q0), (.ref aS)]))
        obtain ⟨v15, T15, L15, X15, Q15, st15⟩ := Con.virtual (own_rm3 l Z a0 hw [] aS q0 hi aB h0 n0 Z0 S_BUY ) X14 hx hZ (W := 0) hown (hw _ (List.mem_of_getElem? (i := 12) rfl)) (hw _ (List.mem_of_getElem? (i := 13) rfl)) (hw _ (List.mem_of_getElem? (i := 15) rfl)) (hw _ (List.mem_of_getElem? (i := 14) rfl)) (hw _ (List.mem_of_getElem? (i := 1) rfl)) (hw _ (List.mem_of_getElem? (i := 16) rfl)) (by decide) (by decide) (by decide) (by decide) (by decide) e14 (g := (mkF m 159 #[.val (.long q0), .second, .val (.long q1), .second, .val (.long q2), .second, .val (.ref aB), .val (.ref aS), .val (.long lo), .second, .val (.long hi), .second, .val (.int (1 : Int32)), .val (.int (own_f3 aB aB q0 q1)), .val (.int (own_f3 aB aB q1 q0)), .val (.int (own_f3 aS aB q1 q0)), .val (.int (1 : Int32)), .val (.int (1 : Int32)), .val (.int (1 : Int32)), .unset] [(.long hi), (.long q0), (.ref aS)])) rfl (by rw [hml]; rfl) E_SELL (argsL := [(.long q0), (.long hi)]) (rest := []) rfl (lenOf own_pd_1 rfl) rfl (by show 2 * 0 + _ ≤ _; exact Nat.le_of_eq rfl) (hb hby at_159)
        obtain ⟨rfl, Nq15, e15⟩ := Q15
        have N15 := Fr.app N14 Nq15
        refine Go.s (fun {t} => st15) ?_
        show Go p.tables e below P (T15.setTop (mkF m 162 #[.val (.long q0), .second, .val (.long q1), .second, .val (.long q2), .second, .val (.ref aB), .val (.ref aS), .val (.long lo), .second, .val (.long hi), .second, .val (.int (1 : Int32)), .val (.int (own_f3 aB aB q0 q1)), .val (.int (own_f3 aB aB q1 q0)), .val (.int (own_f3 aS aB q1 q0)), .val (.int (1 : Int32)), .val (.int (1 : Int32)), .val (.int (1 : Int32)), .unset] [(.int (own_f3 aS aB q0 hi))]))
        refine Go.s (fun kz => XS.ifNo X15.here hx rfl (hb hby at_162) rfl (XT.i0_eq_f (own_sm aS aB neBS q0 lo hi hlh hc151)) kz) ?_
        show Go p.tables e below P (T15.setTop (mkF m 165 #[.val (.long q0), .second, .val (.long q1), .second, .val (.long q2), .second, .val (.ref aB), .val (.ref aS), .val (.long lo), .second, .val (.long hi), .second, .val (.int (1 : Int32)), .val (.int (own_f3 aB aB q0 q1)), .val (.int (own_f3 aB aB q1 q0)), .val (.int (own_f3 aS aB q1 q0)), .val (.int (1 : Int32)), .val (.int (1 : Int32)), .val (.int (1 : Int32)), .unset] []))
        refine Go.s (fun kz => XS.iconst X15.here hx rfl (hb hby at_165) kz) ?_
        show Go p.tables e below P (T15.setTop (mkF m 166 #[.val (.long q0), .second, .val (.long q1), .second, .val (.long q2), .second, .val (.ref aB), .val (.ref aS), .val (.long lo), .second, .val (.long hi), .second, .val (.int (1 : Int32)), .val (.int (own_f3 aB aB q0 q1)), .val (.int (own_f3 aB aB q1 q0)), .val (.int (own_f3 aS aB q1 q0)), .val (.int (1 : Int32)), .val (.int (1 : Int32)), .val (.int (1 : Int32)), .unset] [(.int (1 : Int32))]))
        refine Go.s (fun kz => XS.goto X15.here hx rfl (pc0 := 166) (pc' := 170) rfl (hb hby at_166) (by decide) (by decide) kz) ?_
        show Go p.tables e below P (T15.setTop (mkF m 170 #[.val (.long q0), .second, .val (.long q1), .second, .val (.long q2), .second, .val (.ref aB), .val (.ref aS), .val (.long lo), .second, .val (.long hi), .second, .val (.int (1 : Int32)), .val (.int (own_f3 aB aB q0 q1)), .val (.int (own_f3 aB aB q1 q0)), .val (.int (own_f3 aS aB q1 q0)), .val (.int (1 : Int32)), .val (.int (1 : Int32)), .val (.int (1 : Int32)), .unset] [(.int (1 : Int32))]))
        refine Go.s (fun kz => XS.istore X15.here hx rfl (hb hby at_170) rfl (l' := #[.val (.long q0), .second, .val (.long q1), .second, .val (.long q2), .second, .val (.ref aB), .val (.ref aS), .val (.long lo), .second, .val (.long hi), .second, .val (.int (1 : Int32)), .val (.int (own_f3 aB aB q0 q1)), .val (.int (own_f3 aB aB q1 q0)), .val (.int (own_f3 aS aB q1 q0)), .val (.int (1 : Int32)), .val (.int (1 : Int32)), .val (.int (1 : Int32)), .val (.int (1 : Int32))]) rfl kz) ?_
        show Go p.tables e below P (T15.setTop (mkF m 172 #[.val (.long q0), .second, .val (.long q1), .second, .val (.long q2), .second, .val (.ref aB), .val (.ref aS), .val (.long lo), .second, .val (.long hi), .second, .val (.int (1 : Int32)), .val (.int (own_f3 aB aB q0 q1)), .val (.int (own_f3 aB aB q1 q0)), .val (.int (own_f3 aS aB q1 q0)), .val (.int (1 : Int32)), .val (.int (1 : Int32)), .val (.int (1 : Int32)), .val (.int (1 : Int32))] []))
        refine Go.s (fun kz => XS.iload X15.here hx rfl (hb hby at_172) rfl kz) ?_
        show Go p.tables e below P (T15.setTop (mkF m 174 #[.val (.long q0), .second, .val (.long q1), .second, .val (.long q2), .second, .val (.ref aB), .val (.ref aS), .val (.long lo), .second, .val (.long hi), .second, .val (.int (1 : Int32)), .val (.int (own_f3 aB aB q0 q1)), .val (.int (own_f3 aB aB q1 q0)), .val (.int (own_f3 aS aB q1 q0)), .val (.int (1 : Int32)), .val (.int (1 : Int32)), .val (.int (1 : Int32)), .val (.int (1 : Int32))] [(.int (1 : Int32))]))
        refine Go.s (fun kz => XS.ifNo X15.here hx rfl (hb hby at_174) rfl (XT.i0_eq_f (by decide)) kz) ?_
        show Go p.tables e below P (T15.setTop (mkF m 177 #[.val (.long q0), .second, .val (.long q1), .second, .val (.long q2), .second, .val (.ref aB), .val (.ref aS), .val (.long lo), .second, .val (.long hi), .second, .val (.int (1 : Int32)), .val (.int (own_f3 aB aB q0 q1)), .val (.int (own_f3 aB aB q1 q0)), .val (.int (own_f3 aS aB q1 q0)), .val (.int (1 : Int32)), .val (.int (1 : Int32)), .val (.int (1 : Int32)), .val (.int (1 : Int32))] []))
        refine Go.s (fun kz => XS.iload X15.here hx rfl (hb hby at_177) rfl kz) ?_
        show Go p.tables e below P (T15.setTop (mkF m 179 #[.val (.long q0), .second, .val (.long q1), .second, .val (.long q2), .second, .val (.ref aB), .val (.ref aS), .val (.long lo), .second, .val (.long hi), .second, .val (.int (1 : Int32)), .val (.int (own_f3 aB aB q0 q1)), .val (.int (own_f3 aB aB q1 q0)), .val (.int (own_f3 aS aB q1 q0)), .val (.int (1 : Int32)), .val (.int (1 : Int32)), .val (.int (1 : Int32)), .val (.int (1 : Int32))] [(.int (1 : Int32))]))
        refine Go.s (fun kz => XS.ifNo X15.here hx rfl (hb hby at_179) rfl (XT.i0_eq_f (by decide)) kz) ?_
        show Go p.tables e below P (T15.setTop (mkF m 182 #[.val (.long q0), .second, .val (.long q1), .second, .val (.long q2), .second, .val (.ref aB), .val (.ref aS), .val (.long lo), .second, .val (.long hi), .second, .val (.int (1 : Int32)), .val (.int (own_f3 aB aB q0 q1)), .val (.int (own_f3 aB aB q1 q0)), .val (.int (own_f3 aS aB q1 q0)), .val (.int (1 : Int32)), .val (.int (1 : Int32)), .val (.int (1 : Int32)), .val (.int (1 : Int32))] []))
        refine Go.s (fun kz => XS.iload X15.here hx rfl (hb hby at_182) rfl kz) ?_
        show Go p.tables e below P (T15.setTop (mkF m 184 #[.val (.long q0), .second, .val (.long q1), .second, .val (.long q2), .second, .val (.ref aB), .val (.ref aS), .val (.long lo), .second, .val (.long hi), .second, .val (.int (1 : Int32)), .val (.int (own_f3 aB aB q0 q1)), .val (.int (own_f3 aB aB q1 q0)), .val (.int (own_f3 aS aB q1 q0)), .val (.int (1 : Int32)), .val (.int (1 : Int32)), .val (.int (1 : Int32)), .val (.int (1 : Int32))] [(.int (1 : Int32))]))
        refine Go.s (fun kz => XS.ifNo X15.here hx rfl (hb hby at_184) rfl (XT.i0_eq_f (by decide)) kz) ?_
        show Go p.tables e below P (T15.setTop (mkF m 187 #[.val (.long q0), .second, .val (.long q1), .second, .val (.long q2), .second, .val (.ref aB), .val (.ref aS), .val (.long lo), .second, .val (.long hi), .second, .val (.int (1 : Int32)), .val (.int (own_f3 aB aB q0 q1)), .val (.int (own_f3 aB aB q1 q0)), .val (.int (own_f3 aS aB q1 q0)), .val (.int (1 : Int32)), .val (.int (1 : Int32)), .val (.int (1 : Int32)), .val (.int (1 : Int32))] []))
        refine Go.s (fun kz => XS.iload X15.here hx rfl (hb hby at_187) rfl kz) ?_
        show Go p.tables e below P (T15.setTop (mkF m 189 #[.val (.long q0), .second, .val (.long q1), .second, .val (.long q2), .second, .val (.ref aB), .val (.ref aS), .val (.long lo), .second, .val (.long hi), .second, .val (.int (1 : Int32)), .val (.int (own_f3 aB aB q0 q1)), .val (.int (own_f3 aB aB q1 q0)), .val (.int (own_f3 aS aB q1 q0)), .val (.int (1 : Int32)), .val (.int (1 : Int32)), .val (.int (1 : Int32)), .val (.int (1 : Int32))] [(.int (1 : Int32))]))
        refine Go.s (fun kz => XS.ifNo X15.here hx rfl (hb hby at_189) rfl (XT.i0_eq_f (by decide)) kz) ?_
        show Go p.tables e below P (T15.setTop (mkF m 192 #[.val (.long q0), .second, .val (.long q1), .second, .val (.long q2), .second, .val (.ref aB), .val (.ref aS), .val (.long lo), .second, .val (.long hi), .second, .val (.int (1 : Int32)), .val (.int (own_f3 aB aB q0 q1)), .val (.int (own_f3 aB aB q1 q0)), .val (.int (own_f3 aS aB q1 q0)), .val (.int (1 : Int32)), .val (.int (1 : Int32)), .val (.int (1 : Int32)), .val (.int (1 : Int32))] []))
        refine Go.s (fun kz => XS.iload X15.here hx rfl (hb hby at_192) rfl kz) ?_
        show Go p.tables e below P (T15.setTop (mkF m 194 #[.val (.long q0), .second, .val (.long q1), .second, .val (.long q2), .second, .val (.ref aB), .val (.ref aS), .val (.long lo), .second, .val (.long hi), .second, .val (.int (1 : Int32)), .val (.int (own_f3 aB aB q0 q1)), .val (.int (own_f3 aB aB q1 q0)), .val (.int (own_f3 aS aB q1 q0)), .val (.int (1 : Int32)), .val (.int (1 : Int32)), .val (.int (1 : Int32)), .val (.int (1 : Int32))] [(.int (1 : Int32))]))
        refine Go.s (fun kz => XS.ifNo X15.here hx rfl (hb hby at_194) rfl (XT.i0_eq_f (by decide)) kz) ?_
        show Go p.tables e below P (T15.setTop (mkF m 197 #[.val (.long q0), .second, .val (.long q1), .second, .val (.long q2), .second, .val (.ref aB), .val (.ref aS), .val (.long lo), .second, .val (.long hi), .second, .val (.int (1 : Int32)), .val (.int (own_f3 aB aB q0 q1)), .val (.int (own_f3 aB aB q1 q0)), .val (.int (own_f3 aS aB q1 q0)), .val (.int (1 : Int32)), .val (.int (1 : Int32)), .val (.int (1 : Int32)), .val (.int (1 : Int32))] []))
        refine Go.s (fun kz => XS.iconst X15.here hx rfl (hb hby at_197) kz) ?_
        show Go p.tables e below P (T15.setTop (mkF m 198 #[.val (.long q0), .second, .val (.long q1), .second, .val (.long q2), .second, .val (.ref aB), .val (.ref aS), .val (.long lo), .second, .val (.long hi), .second, .val (.int (1 : Int32)), .val (.int (own_f3 aB aB q0 q1)), .val (.int (own_f3 aB aB q1 q0)), .val (.int (own_f3 aS aB q1 q0)), .val (.int (1 : Int32)), .val (.int (1 : Int32)), .val (.int (1 : Int32)), .val (.int (1 : Int32))] [(.int (1 : Int32))]))
        refine Go.s (fun kz => XS.goto X15.here hx rfl (pc0 := 198) (pc' := 202) rfl (hb hby at_198) (by decide) (by decide) kz) ?_
        show Go p.tables e below P (T15.setTop (mkF m 202 #[.val (.long q0), .second, .val (.long q1), .second, .val (.long q2), .second, .val (.ref aB), .val (.ref aS), .val (.long lo), .second, .val (.long hi), .second, .val (.int (1 : Int32)), .val (.int (own_f3 aB aB q0 q1)), .val (.int (own_f3 aB aB q1 q0)), .val (.int (own_f3 aS aB q1 q0)), .val (.int (1 : Int32)), .val (.int (1 : Int32)), .val (.int (1 : Int32)), .val (.int (1 : Int32))] [(.int (1 : Int32))]))
        exact Go.retZ X15 hx hlk hret (by decide) (hb hby at_202) (fun U hU hF => hP U _ _ ⟨rfl, N15⟩ ⟨hF.1, hF.2.1, hF.2.2.mono (by decide) (by decide)⟩)
  refine Go.s (fun kz => XT.lloadN X9.here hx rfl (hb hby at_94) rfl kz) ?_
  show Go p.tables e below P (T9.setTop (mkF m 95 #[.val (.long q0), .second, .val (.long q1), .second, .val (.long q2), .second, .val (.ref aB), .val (.ref aS), .val (.long lo), .second, .val (.long hi), .second, .val (.int (1 : Int32)), .val (.int (own_f3 aB aB q0 q1)), .val (.int (own_f3 aB aB q1 q0)), .val (.int (own_f3 aS aB q1 q0)), .val (.int (1 : Int32)), .unset, .unset, .unset] [(.long q0)]))
  refine Go.s (fun kz => XT.lloadN X9.here hx rfl (hb hby at_95) rfl kz) ?_
  show Go p.tables e below P (T9.setTop (mkF m 96 #[.val (.long q0), .second, .val (.long q1), .second, .val (.long q2), .second, .val (.ref aB), .val (.ref aS), .val (.long lo), .second, .val (.long hi), .second, .val (.int (1 : Int32)), .val (.int (own_f3 aB aB q0 q1)), .val (.int (own_f3 aB aB q1 q0)), .val (.int (own_f3 aS aB q1 q0)), .val (.int (1 : Int32)), .unset, .unset, .unset] [(.long q1), (.long q0)]))
  refine Go.s (fun kz => XT.lcmp X9.here hx rfl (hb hby at_96) rfl kz) ?_
  show Go p.tables e below P (T9.setTop (mkF m 97 #[.val (.long q0), .second, .val (.long q1), .second, .val (.long q2), .second, .val (.ref aB), .val (.ref aS), .val (.long lo), .second, .val (.long hi), .second, .val (.int (1 : Int32)), .val (.int (own_f3 aB aB q0 q1)), .val (.int (own_f3 aB aB q1 q0)), .val (.int (own_f3 aS aB q1 q0)), .val (.int (1 : Int32)), .unset, .unset, .unset] [(.int (XT.cmpL q0 q1))]))
  by_cases hc97 : q0 = q1
  · skip
    refine Go.s (fun kz => XS.ifYes X9.here hx rfl (pc0 := 97) (pc' := 107) rfl (hb hby at_97) rfl (XT.ll_eq_t hc97) (by decide) (by decide) kz) ?_
    show Go p.tables e below P (T9.setTop (mkF m 107 #[.val (.long q0), .second, .val (.long q1), .second, .val (.long q2), .second, .val (.ref aB), .val (.ref aS), .val (.long lo), .second, .val (.long hi), .second, .val (.int (1 : Int32)), .val (.int (own_f3 aB aB q0 q1)), .val (.int (own_f3 aB aB q1 q0)), .val (.int (own_f3 aS aB q1 q0)), .val (.int (1 : Int32)), .unset, .unset, .unset] []))
    refine Go.s (fun kz => XS.iconst X9.here hx rfl (hb hby at_107) kz) ?_
    show Go p.tables e below P (T9.setTop (mkF m 108 #[.val (.long q0), .second, .val (.long q1), .second, .val (.long q2), .second, .val (.ref aB), .val (.ref aS), .val (.long lo), .second, .val (.long hi), .second, .val (.int (1 : Int32)), .val (.int (own_f3 aB aB q0 q1)), .val (.int (own_f3 aB aB q1 q0)), .val (.int (own_f3 aS aB q1 q0)), .val (.int (1 : Int32)), .unset, .unset, .unset] [(.int (1 : Int32))]))
    refine Go.s (fun kz => XS.goto X9.here hx rfl (pc0 := 108) (pc' := 112) rfl (hb hby at_108) (by decide) (by decide) kz) ?_
    show Go p.tables e below P (T9.setTop (mkF m 112 #[.val (.long q0), .second, .val (.long q1), .second, .val (.long q2), .second, .val (.ref aB), .val (.ref aS), .val (.long lo), .second, .val (.long hi), .second, .val (.int (1 : Int32)), .val (.int (own_f3 aB aB q0 q1)), .val (.int (own_f3 aB aB q1 q0)), .val (.int (own_f3 aS aB q1 q0)), .val (.int (1 : Int32)), .unset, .unset, .unset] [(.int (1 : Int32))]))
    exact J112  
  · skip
    refine Go.s (fun kz => XS.ifNo X9.here hx rfl (hb hby at_97) rfl (XT.ll_eq_f hc97) kz) ?_
    show Go p.tables e below P (T9.setTop (mkF m 100 #[.val (.long q0), .second, .val (.long q1), .second, .val (.long q2), .second, .val (.ref aB), .val (.ref aS), .val (.long lo), .second, .val (.long hi), .second, .val (.int (1 : Int32)), .val (.int (own_f3 aB aB q0 q1)), .val (.int (own_f3 aB aB q1 q0)), .val (.int (own_f3 aS aB q1 q0)), .val (.int (1 : Int32)), .unset, .unset, .unset] []))
    refine Go.s (fun kz => XS.iload X9.here hx rfl (hb hby at_100) rfl kz) ?_
    show Go p.tables e below P (T9.setTop (mkF m 102 #[.val (.long q0), .second, .val (.long q1), .second, .val (.long q2), .second, .val (.ref aB), .val (.ref aS), .val (.long lo), .second, .val (.long hi), .second, .val (.int (1 : Int32)), .val (.int (own_f3 aB aB q0 q1)), .val (.int (own_f3 aB aB q1 q0)), .val (.int (own_f3 aS aB q1 q0)), .val (.int (1 : Int32)), .unset, .unset, .unset] [(.int (own_f3 aB aB q0 q1))]))
    refine Go.s (fun kz => XS.iload X9.here hx rfl (hb hby at_102) rfl kz) ?_
    show Go p.tables e below P (T9.setTop (mkF m 104 #[.val (.long q0), .second, .val (.long q1), .second, .val (.long q2), .second, .val (.ref aB), .val (.ref aS), .val (.long lo), .second, .val (.long hi), .second, .val (.int (1 : Int32)), .val (.int (own_f3 aB aB q0 q1)), .val (.int (own_f3 aB aB q1 q0)), .val (.int (own_f3 aS aB q1 q0)), .val (.int (1 : Int32)), .unset, .unset, .unset] [(.int (own_f3 aB aB q1 q0)), (.int (own_f3 aB aB q0 q1))]))
    refine Go.s (fun kz => XS.icmpNo X9.here hx rfl (hb hby at_104) rfl (XT.ii_eq_f (own_xc aB q0 q1 hc97)) kz) ?_
    show Go p.tables e below P (T9.setTop (mkF m 107 #[.val (.long q0), .second, .val (.long q1), .second, .val (.long q2), .second, .val (.ref aB), .val (.ref aS), .val (.long lo), .second, .val (.long hi), .second, .val (.int (1 : Int32)), .val (.int (own_f3 aB aB q0 q1)), .val (.int (own_f3 aB aB q1 q0)), .val (.int (own_f3 aS aB q1 q0)), .val (.int (1 : Int32)), .unset, .unset, .unset] []))
    refine Go.s (fun kz => XS.iconst X9.here hx rfl (hb hby at_107) kz) ?_
    show Go p.tables e below P (T9.setTop (mkF m 108 #[.val (.long q0), .second, .val (.long q1), .second, .val (.long q2), .second, .val (.ref aB), .val (.ref aS), .val (.long lo), .second, .val (.long hi), .second, .val (.int (1 : Int32)), .val (.int (own_f3 aB aB q0 q1)), .val (.int (own_f3 aB aB q1 q0)), .val (.int (own_f3 aS aB q1 q0)), .val (.int (1 : Int32)), .unset, .unset, .unset] [(.int (1 : Int32))]))
    refine Go.s (fun kz => XS.goto X9.here hx rfl (pc0 := 108) (pc' := 112) rfl (hb hby at_108) (by decide) (by decide) kz) ?_
    show Go p.tables e below P (T9.setTop (mkF m 112 #[.val (.long q0), .second, .val (.long q1), .second, .val (.long q2), .second, .val (.ref aB), .val (.ref aS), .val (.long lo), .second, .val (.long hi), .second, .val (.int (1 : Int32)), .val (.int (own_f3 aB aB q0 q1)), .val (.int (own_f3 aB aB q1 q0)), .val (.int (own_f3 aS aB q1 q0)), .val (.int (1 : Int32)), .unset, .unset, .unset] [(.int (1 : Int32))]))
    exact J112  
set_option maxRecDepth 65536 in
set_option maxHeartbeats 40000000 in
theorem own_comes {Post : Tables → Env → Array Value → State → Outcome → State → Prop} (hpost : ∀ tb e args s v u, (limb_1_1.after args s (.returned v) u = true ∧ limb_1_2.after args s (.returned v) u = true ∧ True) → FrameEnd s (.returned v) u (Jvm.fieldLocs frame_1_writes args s ++ Jvm.arrayLocs frame_1_arrays args s ++ Jvm.staticLocs frame_1_statics s) 0 0 → Post tb e args s (.returned v) u) :
    ArmFor flags0 classFile x code maxLocals ret World_1 tables_1 room_1 Calls_1 rest_1 Pre_1 Post := by
  intro l hfl _ _ p e ha hc hk s m args below hf hA hF happ hP
  obtain ⟨hcalls, hrest, hpre⟩ := hP
  obtain ⟨-, -, -, hnamed, -, -, -, hat⟩ := (Spec.applies_iff hf).mp happ
  obtain ⟨hg, hn⟩ := and_e (Cond.before_iff.mp (show (Jvm.Cond.and given_1 narrow_1).before args s = true from hpre))
  obtain ⟨h1, g1⟩ := and_e hg
  obtain ⟨w0, w1, w2, rfl⟩ : ∃ w0 w1 w2 : Value, args = #[w0, w1, w2] := by
    have hs : args.size = 3 := by simpa [Cond.value, given_1] using h1
    obtain ⟨L⟩ := args
    match L, hs with
    | [w0, w1, w2], _ => exact ⟨w0, w1, w2, rfl⟩
  have hw := fun d (hd : d ∈ tables_1) => atoms_spec (ws := Jvm.Cond.code x code maxLocals ret :: tables_1) hat d (List.mem_cons_of_mem _ hd)
  have hfit : Fit s := fun {y c} hc i hi => by
    obtain ⟨ha, rfl⟩ := Array.getElem?_eq_some_iff.mp hc
    have q := List.all_eq_true.mp ((Array.all_eq_true_iff_forall_mem.mp hF) _ (Array.getElem_mem ha)) i (List.mem_range.mpr hi)
    simpa [Array.getElem?_eq_getElem hi] using q
  obtain ⟨a0, g2⟩ := and_e g1
  obtain ⟨i0, ee0⟩ := isL_v a0
  obtain rfl : w0 = (.long i0) := Option.some.inj ee0
  obtain ⟨a1, g3⟩ := and_e g2
  obtain ⟨i1, ee1⟩ := isL_v a1
  obtain rfl : w1 = (.long i1) := Option.some.inj ee1
  obtain ⟨i2, ee2⟩ := isL_v g3
  obtain rfl : w2 = (.long i2) := Option.some.inj ee2
  obtain ⟨n1, m1⟩ := and_e hn
  obtain ⟨n2, m2⟩ := and_e m1
  obtain ⟨n3, n4⟩ := and_e m2
  obtain ⟨aB, eB⟩ := exa_v n1
  obtain ⟨aS, eS⟩ := exa_v n2
  have SB := Sta.start eB (Or.inr ⟨(hw _ (List.mem_of_getElem? (i := 1) rfl)), (hw _ (List.mem_of_getElem? (i := 2) rfl))⟩)
  have SS := Sta.start eS (Or.inr ⟨(hw _ (List.mem_of_getElem? (i := 1) rfl)), (hw _ (List.mem_of_getElem? (i := 4) rfl))⟩)
  have EB := Exa.start eB n1
  have ES := Exa.start eS n2
  have f3 := own_eq_int n3
  have f4 := own_eq_int n4
  rw [fld_at eS] at f3
  rw [fld_at eB] at f4
  have neBS : aB ≠ aS := Fld.ne (Fld.start f4) (Fld.start f3) (fun q => by cases q)
  obtain ⟨n, o, h1, h2, h3, _, L, rfl, ⟨rfl, N⟩, hq⟩ := own_rm0 l s _ hw tables_1 i0 i1 i2 aB aS s.heap s.heap.size (Nat.le_refl _) SB EB SS ES neBS p e ha hc hk s m _ below hf ((Spec.applies_iff_loose hf).mp happ).1 ⟨rfl, State.Warmed39.refl s, rfl⟩ trivial
  refine ⟨n, _, h1, h2, h3, hpost _ _ _ _ _ _ ⟨Cond.after_iff.mpr rfl, Cond.after_iff.mpr (eq_i res_at (Term.int_eval (1)) rfl), trivial⟩ ⟨hq.1, hq.2.1, (hq.2.2.sift fun y hy => Or.inr (N y hy)).mono (by decide) (by decide)⟩⟩
theorem main_1_1 : Claimed_1_1 := own_comes fun _ _ _ _ _ _ h hF => ⟨h.1, hF⟩
theorem main_1_2 : Claimed_1_2 := own_comes fun _ _ _ _ _ _ h hF => ⟨h.2.1, hF⟩
end Jvm.Pilot.@@N@@
namespace Jvm.Pilot.@@N@@
open Jvm Jvm.ClassFile Sem Op Lib Jvm.Free Jvm.Stand Jvm.Pilot.@@N@@.Jvm.D
/-! MADE BY PROGRAM (witnessworld.py) out of the Statement's table words and the real class files: 13 classes; the members and pool entries that the words name. The judged class is class 1, her method 1. -/
namespace start1
open Jvm.ClassFile
def u (s : String) : CpInfo := .utf8 (stringToUtf16 s)
/-- a pool by its gaps: so many unusable entries, then the entry; so many at the end -/
def gap : Nat → List CpInfo → List CpInfo
  | 0, r => r
  | n + 1, r => .unusable :: gap n r
def poolList (es : List (Nat × CpInfo)) (last : Nat) : List CpInfo := es.foldr (fun e r => gap e.1 (e.2 :: r)) (gap last [])
def pool (es : List (Nat × CpInfo)) (last : Nat) : Array CpInfo := ⟨poolList es last⟩
def fileOf (pool : Array CpInfo) (this : Nat) (attrs : Array Attribute := #[]) (ms : Array MethodInfo := #[]) (fl : Nat := 33) (sup : Nat := 0) (ifs : Array Nat := #[]) (fds : Array FieldInfo := #[]) : ClassFile where
  minorVersion := 0
  majorVersion := 65
  constantPool := pool
  accessFlags := fl
  thisClass := this
  superClass := sup
  interfaces := ifs
  fields := fds
  methods := ms
  attributes := attrs
def plain (name : String) (sup : Option ClassId) : Class where
  name := name
  kind := .ordinary
  loader := none
  accessFlags := 33
  super := sup
  interfaces := #[]
  cf := none
  fields := #[]
  methods := #[]
  instanceTypes := #[]
  staticTypes := #[]
  resolved := #[]
  callSites := []
  init := .initialized
  statics := none
  mirror := none

def pool0 : Array CpInfo := pool [(5, u "<init>"), (0, u "()V"), (1, .class_ 10), (1, u "java/lang/Object")] 113

def k0m0 : Method := { name := "<init>", desc := "()V", sig := { parameters := [], returnType := none }, accessFlags := 1, code := none }
/-- java/lang/Object -/
def k0 : Class := { plain "java/lang/Object" none with
  accessFlags := 33
  interfaces := #[]
  cf := some (fileOf pool0 8 #[] #[{ accessFlags := 1, nameIndex := 5, descriptorIndex := 6, attributes := #[] }] 33 0 #[] #[])
  fields := #[]
  methods := #[k0m0]
  instanceTypes := #[]
  staticTypes := #[]
  resolved := Array.replicate 124 none
  statics := none }

def pool1 : Array CpInfo := pool [(2, .class_ 4), (1, u "java/lang/Object"), (0, u "<init>"), (0, u "()V"), (0, .fieldref 8 9), (0, .class_ 10), (0, .nameAndType 11 12), (0, u "com/example/rotunda/rotunda/Side"), (0, u "BUY"), (0, u "Lcom/example/rotunda/rotunda/Side;"), (0, .fieldref 8 14), (0, .nameAndType 15 12), (0, u "SELL"), (0, .methodref 17 18), (0, .class_ 19), (0, .nameAndType 20 21), (0, u "java/lang/Math"), (0, u "min"), (0, u "(JJ)J"), (0, .methodref 17 23), (0, .nameAndType 24 21), (0, u "max"), (0, .methodref 8 26), (0, .nameAndType 27 28), (0, u "accepts"), (0, u "(JJ)Z"), (0, .class_ 30), (0, u "com/example/rotunda/rotunda/SideAcceptsPinLaw"), (2, u "law"), (0, u "(JJJ)Z")] 3

def k1m0 : Method := { name := "<init>", desc := "()V", sig := { parameters := [], returnType := none }, accessFlags := 2, code := none }
def k1c1 : Code := { maxStack := 5, maxLocals := 20, code := code, exceptionTable := #[], attributes := #[] }
def k1m1 : Method := { name := "law", desc := "(JJJ)Z", sig := { parameters := [.long, .long, .long], returnType := some .boolean }, accessFlags := 9, code := some k1c1 }
/-- com/example/rotunda/rotunda/SideAcceptsPinLaw -/
def k1 : Class := { plain "com/example/rotunda/rotunda/SideAcceptsPinLaw" (some 0) with
  accessFlags := 49
  interfaces := #[]
  cf := some (fileOf pool1 29 #[] #[{ accessFlags := 2, nameIndex := 5, descriptorIndex := 6, attributes := #[] }, { accessFlags := 9, nameIndex := 33, descriptorIndex := 34, attributes := #[] }] 49 2 #[] #[])
  fields := #[]
  methods := #[k1m0, k1m1]
  instanceTypes := #[]
  staticTypes := #[]
  resolved := Array.replicate 38 none
  statics := none }

def pool2 : Array CpInfo := pool [(1, .class_ 2), (0, u "java/lang/constant/Constable"), (0, .class_ 4), (0, u "java/lang/Object")] 6

/-- java/lang/constant/Constable -/
def k2 : Class := { plain "java/lang/constant/Constable" (some 0) with
  accessFlags := 1537
  interfaces := #[]
  cf := some (fileOf pool2 1 #[] #[] 1537 3 #[] #[])
  fields := #[]
  methods := #[]
  instanceTypes := #[]
  staticTypes := #[]
  resolved := Array.replicate 11 none
  statics := none }

def pool3 : Array CpInfo := pool [(1, .class_ 2), (0, u "java/lang/Comparable"), (0, .class_ 4), (0, u "java/lang/Object")] 7

/-- java/lang/Comparable -/
def k3 : Class := { plain "java/lang/Comparable" (some 0) with
  accessFlags := 1537
  interfaces := #[]
  cf := some (fileOf pool3 1 #[] #[] 1537 3 #[] #[])
  fields := #[]
  methods := #[]
  instanceTypes := #[]
  staticTypes := #[]
  resolved := Array.replicate 12 none
  statics := none }

def pool4 : Array CpInfo := pool [(1, .class_ 2), (0, u "java/io/Serializable"), (0, .class_ 4), (0, u "java/lang/Object")] 2

/-- java/io/Serializable -/
def k4 : Class := { plain "java/io/Serializable" (some 0) with
  accessFlags := 1537
  interfaces := #[]
  cf := some (fileOf pool4 1 #[] #[] 1537 3 #[] #[])
  fields := #[]
  methods := #[]
  instanceTypes := #[]
  staticTypes := #[]
  resolved := Array.replicate 7 none
  statics := none }

def pool5 : Array CpInfo := pool [(2, .class_ 4), (1, u "java/lang/Enum"), (0, u "name"), (0, u "Ljava/lang/String;"), (2, u "ordinal"), (0, u "I"), (1, .class_ 14), (1, u "java/lang/Object"), (4, u "hash"), (86, .class_ 108), (1, u "java/lang/Enum$EnumDesc"), (2, .class_ 112), (0, u "java/lang/constant/Constable"), (0, .class_ 114), (0, u "java/lang/Comparable"), (0, .class_ 116), (0, u "java/io/Serializable")] 87

/-- java/lang/Enum -/
def k5 : Class := { plain "java/lang/Enum" (some 0) with
  accessFlags := 1057
  interfaces := #[2, 3, 4]
  cf := some (fileOf pool5 2 #[.nestMembers #[106]] #[] 1057 12 #[111, 113, 115] #[{ accessFlags := 18, nameIndex := 5, descriptorIndex := 6, attributes := #[] }, { accessFlags := 18, nameIndex := 9, descriptorIndex := 10, attributes := #[] }, { accessFlags := 2, nameIndex := 19, descriptorIndex := 10, attributes := #[] }])
  fields := #[{ name := "name", type := (.object "java/lang/String"), accessFlags := 18, slot := 0, constantValue := 0 }, { name := "ordinal", type := .int, accessFlags := 18, slot := 1, constantValue := 0 }, { name := "hash", type := .int, accessFlags := 2, slot := 2, constantValue := 0 }]
  methods := #[]
  instanceTypes := #[(.object "java/lang/String"), .int, .int]
  staticTypes := #[]
  resolved := Array.replicate 204 none
  statics := none }

def pool6 : Array CpInfo := pool [(1, .class_ 2), (0, u "com/example/rotunda/rotunda/Side"), (0, .fieldref 1 4), (0, .nameAndType 5 6), (0, u "BUY"), (0, u "Lcom/example/rotunda/rotunda/Side;"), (2, u "SELL"), (2, u "$VALUES"), (0, u "[Lcom/example/rotunda/rotunda/Side;"), (6, .class_ 22), (1, u "java/lang/Enum"), (8, u "letter"), (0, u "C"), (17, u "accepts"), (0, u "(JJ)Z")] 6

def k6c0 : Code := { maxStack := 4, maxLocals := 5, code := prog_47_method_5_code, exceptionTable := #[], attributes := #[] }
def k6m0 : Method := { name := "accepts", desc := "(JJ)Z", sig := { parameters := [.long, .long], returnType := some .boolean }, accessFlags := 0, code := some k6c0 }
/-- com/example/rotunda/rotunda/Side -/
def k6 : Class := { plain "com/example/rotunda/rotunda/Side" (some 5) with
  accessFlags := 16432
  interfaces := #[]
  cf := some (fileOf pool6 1 #[] #[{ accessFlags := 0, nameIndex := 50, descriptorIndex := 51, attributes := #[] }] 16432 20 #[] #[{ accessFlags := 16409, nameIndex := 5, descriptorIndex := 6, attributes := #[] }, { accessFlags := 16409, nameIndex := 9, descriptorIndex := 6, attributes := #[] }, { accessFlags := 18, nameIndex := 31, descriptorIndex := 32, attributes := #[] }, { accessFlags := 4122, nameIndex := 12, descriptorIndex := 13, attributes := #[] }])
  fields := #[{ name := "BUY", type := (.object "com/example/rotunda/rotunda/Side"), accessFlags := 16409, slot := 0, constantValue := 0 }, { name := "SELL", type := (.object "com/example/rotunda/rotunda/Side"), accessFlags := 16409, slot := 1, constantValue := 0 }, { name := "letter", type := .char, accessFlags := 18, slot := 3, constantValue := 0 }, { name := "$VALUES", type := (.array (.object "com/example/rotunda/rotunda/Side")), accessFlags := 4122, slot := 2, constantValue := 0 }]
  methods := #[k6m0]
  instanceTypes := #[(.object "java/lang/String"), .int, .int, .char]
  staticTypes := #[(.object "com/example/rotunda/rotunda/Side"), (.object "com/example/rotunda/rotunda/Side"), (.array (.object "com/example/rotunda/rotunda/Side"))]
  resolved := Array.replicate 58 none
  statics := some 0 }

def pool7 : Array CpInfo := pool [(1, .class_ 2), (0, u "java/lang/Math"), (1, .class_ 6), (1, u "java/lang/Object"), (0, u "<init>"), (0, u "()V"), (89, .class_ 100), (1, u "java/lang/Math$RandomNumberGeneratorHolder"), (20, u "(JJ)J"), (50, u "negativeZeroFloatBits"), (0, u "J"), (2, u "negativeZeroDoubleBits"), (21, u "max"), (2, u "min"), (43, u "$assertionsDisabled"), (0, u "Z"), (91, u "twoToTheDoubleScaleDown"), (0, u "D"), (4, u "twoToTheDoubleScaleUp"), (9, u "E"), (3, u "PI"), (2, u "TAU"), (2, u "DEGREES_TO_RADIANS"), (0, u "RADIANS_TO_DEGREES")] 94

def k7m0 : Method := { name := "<init>", desc := "()V", sig := { parameters := [], returnType := none }, accessFlags := 2, code := none }
def k7c1 : Code := { maxStack := 4, maxLocals := 4, code := jdk_29_method_66_code, exceptionTable := #[], attributes := #[] }
def k7m1 : Method := { name := "max", desc := "(JJ)J", sig := { parameters := [.long, .long], returnType := some .long }, accessFlags := 9, code := some k7c1 }
def k7c2 : Code := { maxStack := 4, maxLocals := 4, code := jdk_29_method_70_code, exceptionTable := #[], attributes := #[] }
def k7m2 : Method := { name := "min", desc := "(JJ)J", sig := { parameters := [.long, .long], returnType := some .long }, accessFlags := 9, code := some k7c2 }
/-- java/lang/Math -/
def k7 : Class := { plain "java/lang/Math" (some 0) with
  accessFlags := 49
  interfaces := #[]
  cf := some (fileOf pool7 1 #[.nestMembers #[98]] #[{ accessFlags := 2, nameIndex := 7, descriptorIndex := 8, attributes := #[] }, { accessFlags := 9, nameIndex := 198, descriptorIndex := 121, attributes := #[] }, { accessFlags := 9, nameIndex := 201, descriptorIndex := 121, attributes := #[] }] 49 4 #[] #[{ accessFlags := 25, nameIndex := 354, descriptorIndex := 339, attributes := #[] }, { accessFlags := 25, nameIndex := 358, descriptorIndex := 339, attributes := #[] }, { accessFlags := 25, nameIndex := 361, descriptorIndex := 339, attributes := #[] }, { accessFlags := 26, nameIndex := 364, descriptorIndex := 339, attributes := #[] }, { accessFlags := 26, nameIndex := 365, descriptorIndex := 339, attributes := #[] }, { accessFlags := 26, nameIndex := 172, descriptorIndex := 173, attributes := #[] }, { accessFlags := 26, nameIndex := 176, descriptorIndex := 173, attributes := #[] }, { accessFlags := 8, nameIndex := 344, descriptorIndex := 339, attributes := #[] }, { accessFlags := 8, nameIndex := 338, descriptorIndex := 339, attributes := #[] }, { accessFlags := 4120, nameIndex := 245, descriptorIndex := 246, attributes := #[] }])
  fields := #[{ name := "E", type := .double, accessFlags := 25, slot := 0, constantValue := 0 }, { name := "PI", type := .double, accessFlags := 25, slot := 1, constantValue := 0 }, { name := "TAU", type := .double, accessFlags := 25, slot := 2, constantValue := 0 }, { name := "DEGREES_TO_RADIANS", type := .double, accessFlags := 26, slot := 3, constantValue := 0 }, { name := "RADIANS_TO_DEGREES", type := .double, accessFlags := 26, slot := 4, constantValue := 0 }, { name := "negativeZeroFloatBits", type := .long, accessFlags := 26, slot := 5, constantValue := 0 }, { name := "negativeZeroDoubleBits", type := .long, accessFlags := 26, slot := 6, constantValue := 0 }, { name := "twoToTheDoubleScaleUp", type := .double, accessFlags := 8, slot := 7, constantValue := 0 }, { name := "twoToTheDoubleScaleDown", type := .double, accessFlags := 8, slot := 8, constantValue := 0 }, { name := "$assertionsDisabled", type := .boolean, accessFlags := 4120, slot := 9, constantValue := 0 }]
  methods := #[k7m0, k7m1, k7m2]
  instanceTypes := #[]
  staticTypes := #[.double, .double, .double, .double, .double, .long, .long, .double, .double, .boolean]
  resolved := Array.replicate 460 none
  statics := none }

def pool8 : Array CpInfo := pool [(1, u "java/lang/Cloneable"), (0, .class_ 1), (0, u "java/lang/Object"), (0, .class_ 3)] 3

/-- java/lang/Cloneable -/
def k8 : Class := { plain "java/lang/Cloneable" (some 0) with
  accessFlags := 1537
  interfaces := #[]
  cf := some (fileOf pool8 2 #[] #[] 1537 4 #[] #[])
  fields := #[]
  methods := #[]
  instanceTypes := #[]
  staticTypes := #[]
  resolved := Array.replicate 8 none
  statics := none }

/-- the primitive byte -/
def k9 : Class := { plain "byte" none with kind := .primitive 'B', accessFlags := 0x411 }
/-- [B -/
def k10 : Class := { plain "[B" (some 0) with kind := .array 9 .byte, interfaces := #[8, 4], accessFlags := 1041 }

/-- the primitive int -/
def k11 : Class := { plain "int" none with kind := .primitive 'I', accessFlags := 0x411 }
/-- [I -/
def k12 : Class := { plain "[I" (some 0) with kind := .array 11 .int, interfaces := #[8, 4], accessFlags := 1041 }

def heap : Heap := #[{ cls := 6, slots := #[.ref 1, .ref 2, .null], vm := .statics 6 },
  { cls := 6, slots := #[.null, .int 0, .int 0, .int 66], vm := .none },
  { cls := 6, slots := #[.null, .int 1, .int 0, .int 83], vm := .none }]
def classes : Array Class := #[k0, k1, k2, k3, k4, k5, k6, k7, k8, k9, k10, k11, k12]
def interned : List (Array UInt16 × Addr) := []
def slotsUsed : Nat := 11
def theMethod : MethodId := ⟨1, 1⟩
def args0 : Array Value := #[.long 5, .long 6, .long 7]
def aboutOver (below : List Frame) : State where
  vm := { classes := classes, interned := interned.toArray }
  heap := heap
  slotsUsed := slotsUsed
  threads := #[{ frames := .invoking theMethod args0 :: below }]
def below0 : List Frame := [.native { method := ⟨0, 0⟩, args := #[] }]
def about1 : State := aboutOver below0
def p0 : Program := .bare "" "" ""
def e0 : Env := launch0.env 0 0 0
theorem w_frames : about1.frames = Frame.invoking theMethod args0 :: below0 := rfl
set_option maxRecDepth 65536 in
theorem w_args : argsFit about1.vm theMethod args0 = true := by decide +kernel
set_option maxRecDepth 65536 in
theorem w_heap : heapFits about1 = true := by decide +kernel
set_option maxRecDepth 65536 in
theorem w_runnable : about1.curStatus? = some .runnable := by decide +kernel
set_option maxRecDepth 65536 in
theorem w_alone : about1.alone = true := by decide +kernel
set_option maxRecDepth 65536 in
theorem w_named : about1.methodNamed? x = some theMethod := by decide +kernel
set_option maxRecDepth 65536 in
theorem w_hears : about1.hears theMethod below0 = true := by decide +kernel
set_option maxRecDepth 65536 in
theorem w_ripe : about1.ripe theMethod args0 below0 = true := by decide +kernel
theorem w_running : about1.status = .running := rfl
set_option maxRecDepth 65536 in
theorem w_room : about1.hasRoom e0.platform room_1 = true :=
  launch0.hasRoom_least _ room_1 (by decide +kernel) (by decide +kernel) (by decide +kernel) (by decide +kernel) (by decide +kernel) (by decide +kernel)
theorem allAtoms_all (ts : List Jvm.Cond) (a : Array Jvm.Value) (st : Jvm.State) : (allAtoms ts).before a st = ts.all (fun c => c.before a st) := by
  induction ts with
  | nil => rfl
  | cons c t ih =>
    show (Jvm.Cond.and c (allAtoms t)).before a st = _
    rw [Jvm.Cond.before_and, ih, List.all_cons]
def words1 : List Jvm.Cond := Jvm.Cond.code x code maxLocals ret :: tables_1
/-- a 'code' word, met by the world's own term for the bytes: nothing is compared byte by byte -/
theorem code_word {y : MethodName} {bytes : ByteArray} {mx : Nat} {rt : Option FieldType} {a : Array Value} {s : State} {m : MethodId} {meth : Method} {c : Code} (h1 : s.methodNamed? y = some m) (h2 : s.vm.method? m = some meth) (h3 : meth.code = some c) (h4 : c.code = bytes)
    (h5 : (c.maxLocals == mx && c.exceptionTable.isEmpty && decide (c.maxStack ≤ mostOperands) && decide (meth.sig.returnType = rt) && !meth.locks && decide (parseMethodDescriptor y.desc = some meth.sig)) = true) : (Jvm.Cond.code y bytes mx rt).before a s = true := by
  simp only [Bool.and_eq_true, beq_iff_eq, Bool.not_eq_true', decide_eq_true_eq] at h5
  obtain ⟨⟨⟨⟨⟨g1, g2⟩, g3⟩, g4⟩, g5⟩, g6⟩ := h5
  simp [Cond.before, Cond.holds, Cond.value, h1, h2, h3, h4, g1, g2, g3, g4, g5, g6]
def isCode : Jvm.Cond → Bool
  | .code _ _ _ _ => true
  | _ => false
theorem all_split {L : List Jvm.Cond} {P : Jvm.Cond → Bool} (h1 : L.all (fun c => isCode c || P c) = true) (h2 : ∀ c ∈ L.filter isCode, P c = true) : L.all P = true := by
  refine List.all_eq_true.mpr fun c hc => ?_
  have h := List.all_eq_true.mp h1 c hc
  rcases Bool.eq_false_or_eq_true (isCode c) with hi | hi
  · exact h2 c (List.mem_filter.mpr ⟨hc, hi⟩)
  · simpa [hi] using h
set_option maxRecDepth 65536 in
theorem w_c0 : (Jvm.Cond.code x code maxLocals ret).before args0 about1 = true := code_word (m := ⟨1, 1⟩) (meth := k1m1) (c := k1c1) (by decide +kernel) rfl rfl rfl (by decide +kernel)
set_option maxRecDepth 65536 in
theorem w_c1 : (Jvm.Cond.code ({ cls := "java/lang/Math", name := "min", desc := "(JJ)J" } : Jvm.MethodName) jdk_29_method_70_code (4 : Nat) (Option.some Jvm.ClassFile.FieldType.long)).before args0 about1 = true := code_word (m := ⟨7, 2⟩) (meth := k7m2) (c := k7c2) (by decide +kernel) rfl rfl rfl (by decide +kernel)
set_option maxRecDepth 65536 in
theorem w_c2 : (Jvm.Cond.code ({ cls := "java/lang/Math", name := "max", desc := "(JJ)J" } : Jvm.MethodName) jdk_29_method_66_code (4 : Nat) (Option.some Jvm.ClassFile.FieldType.long)).before args0 about1 = true := code_word (m := ⟨7, 1⟩) (meth := k7m1) (c := k7c1) (by decide +kernel) rfl rfl rfl (by decide +kernel)
set_option maxRecDepth 65536 in
theorem w_c3 : (Jvm.Cond.code ({ cls := "com/example/rotunda/rotunda/Side", name := "accepts", desc := "(JJ)Z" } : Jvm.MethodName) prog_47_method_5_code (5 : Nat) (Option.some Jvm.ClassFile.FieldType.boolean)).before args0 about1 = true := code_word (m := ⟨6, 0⟩) (meth := k6m0) (c := k6c0) (by decide +kernel) rfl rfl rfl (by decide +kernel)
def codes1 : List Jvm.Cond := [Jvm.Cond.code x code maxLocals ret, Jvm.Cond.code ({ cls := "java/lang/Math", name := "min", desc := "(JJ)J" } : Jvm.MethodName) jdk_29_method_70_code (4 : Nat) (Option.some Jvm.ClassFile.FieldType.long), Jvm.Cond.code ({ cls := "java/lang/Math", name := "max", desc := "(JJ)J" } : Jvm.MethodName) jdk_29_method_66_code (4 : Nat) (Option.some Jvm.ClassFile.FieldType.long), Jvm.Cond.code ({ cls := "com/example/rotunda/rotunda/Side", name := "accepts", desc := "(JJ)Z" } : Jvm.MethodName) prog_47_method_5_code (5 : Nat) (Option.some Jvm.ClassFile.FieldType.boolean)]
set_option maxRecDepth 65536 in
theorem codes_eq : words1.filter isCode = codes1 := rfl
theorem w_codes : ∀ c ∈ words1.filter isCode, c.before args0 about1 = true := by
  rw [codes_eq]
  intro c hc
  simp only [codes1, List.mem_cons, List.not_mem_nil, or_false] at hc
  rcases hc with rfl | rfl | rfl | rfl
  · exact w_c0
  · exact w_c1
  · exact w_c2
  · exact w_c3
set_option maxRecDepth 65536 in
theorem w_t1 : words1.all (fun c => isCode c || c.before args0 about1) = true := by decide +kernel
theorem w_tables : (allAtoms (Jvm.Cond.code x code maxLocals ret :: tables_1)).before args0 about1 = true := by
  rw [allAtoms_all]
  show words1.all (fun c => c.before args0 about1) = true
  refine all_split ?_ w_codes
  rw [w_t1]
set_option maxRecDepth 65536 in
theorem w_case : (Jvm.Cond.and given_1 narrow_1).before args0 about1 = true := by decide +kernel
theorem w_applies : (headSpec (Jvm.Cond.code x code maxLocals ret :: tables_1) room_1).applies x e0.platform about1 = true :=
  (Spec.applies_iff w_frames).mpr ⟨w_running, w_runnable, w_alone, w_named, w_hears, w_ripe, w_room, w_tables⟩
theorem atStart : AtStart classFile x code maxLocals ret World_1 tables_1 room_1 Calls_1 rest_1 Pre_1 launch0 p0 e0 about1 theMethod args0 below0 :=
  ⟨lists_1, trivial, launch0.admits_env _ _ _, launch0.least_env, fairChoices_fair.cas, fairChoices_fair.clock, w_frames, w_args, w_heap, w_applies, trivial, trivial, w_case⟩
end start1
theorem witness_1 : WitnessClaimed_1 := ⟨start1.p0, start1.e0, start1.about1, start1.theMethod, start1.args0, start1.below0, start1.atStart⟩
end Jvm.Pilot.@@N@@
