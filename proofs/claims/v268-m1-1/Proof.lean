import JvmDerived
import JvmDerived.Pilot.@@N@@Statement
import JvmDerived.Pilot.@@N@@Code
set_option linter.unusedVariables false
set_option linter.unusedSimpArgs false
@@BLOCK:NumsL.lean.txt@@
namespace Jvm.OwnKit
open Sem ClassFile Op Lib Jvm.Stand Jvm.Free Jvm.LawKit Jvm.RoadKit
def Go (tb : Tables) (e : Env) (below : List Frame) (P : State → Outcome → Prop) (S : State) : Prop := ∃ U o, Steps tb e below S U ∧ U.status = .running ∧ Ended U below o ∧ P U o
theorem Go.s {tb : Tables} {e : Env} {below : List Frame} {P : State → Outcome → Prop} {S S' : State} (k : ∀ {t : State}, Steps tb e below S' t → Steps tb e below S t) (f : Go tb e below P S') : Go tb e below P S := by
  obtain ⟨U, o, h1, h2⟩ := f
  exact ⟨U, o, k h1, h2⟩
theorem Go.cast {tb : Tables} {e : Env} {below : List Frame} {P : State → Outcome → Prop} {T : State} {g g' : JFrame} (q : g = g') (f : Go tb e below P (T.setTop g')) : Go tb e below P (T.setTop g) := q ▸ f
/-- the contract of a body, at one heap and one list of arguments -/
def Con (l : Launch) (Z : State) (y : MethodName) (bytes : ByteArray) (maxL : Nat) (ret : Option FieldType) (ws : List Jvm.Cond) (rm : Room) (as' : Array Value) (h : Heap) (Q : Option Value → Heap → List Loc → Prop) : Prop :=
  MetFree l y (head1 (Cond.code y bytes maxL ret :: ws) rm) (fun a U => a = as' ∧ Z.Warmed39 U.vm ∧ U.heap = h) (fun _ _ _ _ _ => True) (fun _ U o U' => ∃ v L, o = .returned v ∧ Q v U'.heap L ∧ FrameEnd U o U' L rm.cells rm.slots)
theorem Con.intro {l : Launch} {Z : State} {y : MethodName} {bytes : ByteArray} {maxL : Nat} {ret : Option FieldType} {ws : List Jvm.Cond} {rm : Room} {as' : Array Value} {h : Heap} {Q : Option Value → Heap → List Loc → Prop} (hpn : plainFor y = true)
    (body : ∀ (p : Program) (e : Env) (s : State) (m : MethodId) (below : List Frame) (meth : Method) (c : Code) (s₁ : State) (P : State → Outcome → Prop), p.tables.exec = Jvm.exec → c.code = bytes → c.maxLocals = maxL → s.vm.findClass y.cls = some m.cls → meth.name = y.name → meth.sig.returnType = ret → meth.locks = false → Z.Warmed39 s.vm →
      Stand p l e rm s m as' below meth c s₁ [] 0 0 → s₁.heap = h → (∀ U v L, Q v U.heap L → FrameEnd s (.returned v) U L rm.cells rm.slots → P U (.returned v)) → Go p.tables e below P (s₁.setTop (entryFrame m as' maxL))) :
    Con l Z y bytes maxL ret ws rm as' h Q := by
  refine MetFree.of_bodySF hpn hisR ?_
  intro p e s m args below meth c s₁ Bd hml0 hP hK
  obtain ⟨rfl, hZ, hh⟩ := hP
  exact body p e s m below meth c s₁ _ Bd.exec Bd.bytes hml0 (findClass_of_methodNamed Bd.named) (name_of_methodNamed Bd.named Bd.method).1 Bd.returns (BodyLoose.notSynchronized Bd) hZ (Stand.of_body Bd) (by rw [← hh, Bd.state]; rfl) fun U v L q f => ⟨v, L, rfl, q, f⟩
theorem Con.mono {l : Launch} {Z : State} {y : MethodName} {bytes : ByteArray} {maxL : Nat} {ret : Option FieldType} {ws : List Jvm.Cond} {rm : Room} {as' : Array Value} {h : Heap} {Q Q' : Option Value → Heap → List Loc → Prop} (C : Con l Z y bytes maxL ret ws rm as' h Q) (q : ∀ v h L, Q v h L → Q' v h L) : Con l Z y bytes maxL ret ws rm as' h Q' := by
  intro p e ha hc hk s m args below hf happ hP hK
  obtain ⟨n, o, h1, h2, h3, v, L, h4, h5, h6⟩ := C p e ha hc hk s m args below hf happ hP hK
  exact ⟨n, o, h1, h2, h3, v, L, h4, q _ _ _ h5, h6⟩
def ConH (l : Launch) (Z : State) (y : MethodName) (bytes : ByteArray) (maxL : Nat) (ret : Option FieldType) (hs : List (Nat × Nat × Nat × Nat)) (ws : List Jvm.Cond) (rm : Room) (as' : Array Value) (h : Heap) (Q : Option Value → Heap → List Loc → Prop) : Prop :=
  MetFree l y (head1 (Cond.codeWith y bytes maxL ret hs :: ws) rm) (fun a U => a = as' ∧ Z.Warmed39 U.vm ∧ U.heap = h) (fun _ _ _ _ _ => True) (fun _ U o U' => ∃ v L, o = .returned v ∧ Q v U'.heap L ∧ FrameEnd U o U' L rm.cells rm.slots)
theorem ConH.intro {l : Launch} {Z : State} {y : MethodName} {bytes : ByteArray} {maxL : Nat} {ret : Option FieldType} {hs : List (Nat × Nat × Nat × Nat)} {ws : List Jvm.Cond} {rm : Room} {as' : Array Value} {h : Heap} {Q : Option Value → Heap → List Loc → Prop} (hpn : plainFor y = true)
    (body : ∀ (p : Program) (e : Env) (s : State) (m : MethodId) (below : List Frame) (meth : Method) (c : Code) (s₁ : State) (P : State → Outcome → Prop), p.tables.exec = Jvm.exec → c.code = bytes → c.maxLocals = maxL → s.vm.findClass y.cls = some m.cls → meth.name = y.name → meth.sig.returnType = ret → meth.locks = false → Z.Warmed39 s.vm →
      Stand p l e rm s m as' below meth c s₁ [] 0 0 → s₁.heap = h → (∀ U v L, Q v U.heap L → FrameEnd s (.returned v) U L rm.cells rm.slots → P U (.returned v)) → Go p.tables e below P (s₁.setTop (entryFrame m as' maxL))) :
    ConH l Z y bytes maxL ret hs ws rm as' h Q := by
  refine MetFree.of_bodySF hpn hisWith ?_
  intro p e s m args below meth c s₁ Bd hml0 hP hK
  obtain ⟨rfl, hZ, hh⟩ := hP
  exact body p e s m below meth c s₁ _ Bd.exec Bd.bytes hml0 (findClass_of_methodNamed Bd.named) (name_of_methodNamed Bd.named Bd.method).1 Bd.returns (BodyLoose.notSynchronized Bd) hZ (Stand.of_body Bd) (by rw [← hh, Bd.state]; rfl) fun U v L q f => ⟨v, L, rfl, q, f⟩
section Walk
variable {p : Program} {l : Launch} {e : Env} {R : Room} {s : State} {m : MethodId} {args : Array Value} {below : List Frame} {meth : Method} {c : Code} {T : State} {locs : List Loc} {cells slots : Nat} {P : State → Outcome → Prop} {Z : State} {a0 : Array Value} {h : Heap}
theorem Go.ret (X : Stand p l e R s m args below meth c T locs cells slots) (hx : p.tables.exec = Jvm.exec) (hlk : meth.locks = false) {pc : Nat} {Ls : Array Slot} {w : Value} {t : FieldType} {i : Instr} {rest : List Value} (hret : meth.sig.returnType = some t) (hn : narrow t w = w)
    (hi : (i = .ireturn ∧ (t = .int ∨ t = .boolean ∨ t = .byte ∨ t = .char ∨ t = .short) ∧ ∃ z, w = .int z) ∨ (i = .lreturn ∧ t = .long ∧ ∃ z, w = .long z) ∨ (i = .dreturn ∧ t = .double ∧ ∃ z, w = .double z) ∨ (i = .freturn ∧ t = .float ∧ ∃ z, w = .float z) ∨ (i = .areturn ∧ t.isReference = true ∧ w.isRef = true))
    (hd : decode c.code pc = .ok (i, 1)) (hP : ∀ U : State, U.heap = T.heap → FrameEnd s (.returned (some w)) U locs cells slots → P U (.returned (some w))) : Go p.tables e below P (T.setTop (mkF m pc Ls (w :: rest))) := by
  obtain ⟨fs, hr, hrun, hended, hW, hsame⟩ := X.leave (v := some w) (fun h => by rw [hret] at h; cases h) hlk
  exact ⟨_, _, retOut X hx hret hn hi hd hr, hrun, hended, hP _ rfl ⟨⟨_, rfl⟩, hW, hsame⟩⟩
theorem Go.retI (X : Stand p l e R s m args below meth c T locs cells slots) (hx : p.tables.exec = Jvm.exec) (hlk : meth.locks = false) {pc : Nat} {Ls : Array Slot} {z : Int32} {rest : List Value} (hret : meth.sig.returnType = some .int)
    (hd : decode c.code pc = .ok (.ireturn, 1)) (hP : ∀ U : State, U.heap = T.heap → FrameEnd s (.returned (some (.int z))) U locs cells slots → P U (.returned (some (.int z)))) : Go p.tables e below P (T.setTop (mkF m pc Ls (.int z :: rest))) :=
  Go.ret X hx hlk hret rfl (Or.inl ⟨rfl, Or.inl rfl, _, rfl⟩) hd hP
theorem Go.retZ (X : Stand p l e R s m args below meth c T locs cells slots) (hx : p.tables.exec = Jvm.exec) (hlk : meth.locks = false) {pc : Nat} {Ls : Array Slot} {z : Int32} {rest : List Value} (hret : meth.sig.returnType = some .boolean) (hz : z = 0 ∨ z = 1)
    (hd : decode c.code pc = .ok (.ireturn, 1)) (hP : ∀ U : State, U.heap = T.heap → FrameEnd s (.returned (some (.int z))) U locs cells slots → P U (.returned (some (.int z)))) : Go p.tables e below P (T.setTop (mkF m pc Ls (.int z :: rest))) :=
  Go.ret X hx hlk hret (by rcases hz with rfl | rfl <;> rfl) (Or.inl ⟨rfl, Or.inr (Or.inl rfl), _, rfl⟩) hd hP
theorem Go.retJ (X : Stand p l e R s m args below meth c T locs cells slots) (hx : p.tables.exec = Jvm.exec) (hlk : meth.locks = false) {pc : Nat} {Ls : Array Slot} {z : Int64} {rest : List Value} (hret : meth.sig.returnType = some .long)
    (hd : decode c.code pc = .ok (.lreturn, 1)) (hP : ∀ U : State, U.heap = T.heap → FrameEnd s (.returned (some (.long z))) U locs cells slots → P U (.returned (some (.long z)))) : Go p.tables e below P (T.setTop (mkF m pc Ls (.long z :: rest))) :=
  Go.ret X hx hlk hret rfl (Or.inr (Or.inl ⟨rfl, rfl, _, rfl⟩)) hd hP
theorem Go.retR (X : Stand p l e R s m args below meth c T locs cells slots) (hx : p.tables.exec = Jvm.exec) (hlk : meth.locks = false) {pc : Nat} {Ls : Array Slot} {w : Value} {t : FieldType} {rest : List Value} (hret : meth.sig.returnType = some t) (ht : t.isReference = true) (hw : w.isRef = true)
    (hd : decode c.code pc = .ok (.areturn, 1)) (hP : ∀ U : State, U.heap = T.heap → FrameEnd s (.returned (some w)) U locs cells slots → P U (.returned (some w))) : Go p.tables e below P (T.setTop (mkF m pc Ls (w :: rest))) :=
  Go.ret X hx hlk hret (by rcases ref_cases hw with rfl | ⟨z, rfl⟩ <;> cases t <;> first | rfl | (cases ht)) (Or.inr (Or.inr (Or.inr (Or.inr ⟨rfl, ht, hw⟩)))) hd hP
theorem Go.retV (X : Stand p l e R s m args below meth c T locs cells slots) (hx : p.tables.exec = Jvm.exec) (hlk : meth.locks = false) {pc : Nat} {Ls : Array Slot} (hret : meth.sig.returnType = none)
    (hd : decode c.code pc = .ok (.return_, 1)) (hP : ∀ U : State, U.heap = T.heap → FrameEnd s (.returned none) U locs cells slots → P U (.returned none)) : Go p.tables e below P (T.setTop (mkF m pc Ls [])) := by
  obtain ⟨fs, hr, hrun, hended, hW, hsame⟩ := X.leave (v := none) (fun _ => rfl) hlk
  exact ⟨_, _, X.returnOut hx hret hd hr, hrun, hended, hP _ rfl ⟨⟨_, rfl⟩, hW, hsame⟩⟩
theorem Con.static {y : MethodName} {bytes : ByteArray} {maxL : Nat} {ret : Option FieldType} {rm : Room} {as' : Array Value} {Q : Option Value → Heap → List Loc → Prop} (C : Con l Z y bytes maxL ret [] rm as' h Q)
    (X : Stand p l e R s m args below meth c T locs cells slots) (hx : p.tables.exec = Jvm.exec) (hZ : Z.Warmed39 s.vm) {own : String} {index W : Nat} (hown : s.vm.findClass own = some m.cls)
    (wl : (Cond.methodLink own index y).before a0 Z = true) (wst : (Cond.static y).before a0 Z = true) (wz : (Cond.initialized y.cls).before a0 Z = true) (wc : (Cond.code y bytes maxL ret).before a0 Z = true)
    (hy : y.cls ≠ "java/lang/invoke/MethodHandle" ∧ y.cls ≠ "java/lang/invoke/VarHandle") (hf : rm.frames + 1 ≤ R.frames) (hl : W + (maxL + 11) + rm.locals ≤ R.locals) (hce : cells + rm.cells ≤ R.cells) (hsl : slots + rm.slots ≤ R.slots) (eT : T.heap = h)
    {g : JFrame} (hg : g.method = m) (hsize : g.locals.size = c.maxLocals) {argsL rest : List Value} (has : argsL.toArray = as') (hlen : ∀ sig, parseMethodDescriptor y.desc = some sig → argsL.length = sig.parameters.length)
    (hstack : g.stack = argsL.reverse ++ rest) (hW : 2 * g.monitorRoom + (rest.map fun v => v.category).sum ≤ W) (hdg : decode c.code g.pc = .ok (.invokestatic index, 3)) :
    ∃ (v : Option Value) (T' : State) (L : List Loc), Stand p l e R s m args below meth c T' (locs ++ L) (cells + rm.cells) (slots + rm.slots) ∧ Q v T'.heap L ∧
      ∀ {t : State}, Steps p.tables e below (T'.setTop { g with pc := g.pc + 3, stack := v.toList ++ rest }) t → Steps p.tables e below (T.setTop g) t := by
  obtain ⟨v, vm₁, ⟨T', L', k', n'⟩, -, X', ⟨L, hQ, e1, e2, e3⟩, st⟩ := Jvm.LawKit.callS X hx hown (mvT hZ wl) (mvT hZ wst) (mvT hZ wz) (mvT hZ wc) hy (backOf (W := W) C hZ wc wz hf hl) hg hsize hlen hstack hW hdg (fun _ _ => ⟨has, eT, hce, hsl⟩)
  dsimp only [Pt.U, Pt.locs, Pt.cells, Pt.slots] at X' e1 e2 e3 st hQ
  subst e1 e2 e3
  exact ⟨v, T', L, X', hQ, fun {t} k => st t k⟩
theorem Con.special {y : MethodName} {bytes : ByteArray} {maxL : Nat} {rm : Room} {as' : Array Value} {Q : Option Value → Heap → List Loc → Prop} (C : Con l Z y bytes maxL none [] rm as' h Q) (hy1 : y.name = "<init>")
    (X : Stand p l e R s m args below meth c T locs cells slots) (hx : p.tables.exec = Jvm.exec) (hZ : Z.Warmed39 s.vm) {own : String} {index W : Nat} (hown : s.vm.findClass own = some m.cls)
    (wl : (Cond.methodLink own index y).before a0 Z = true) (wi : (Cond.instanceMethod y).before a0 Z = true) (wz : (Cond.initialized y.cls).before a0 Z = true) (wc : (Cond.code y bytes maxL none).before a0 Z = true)
    (hy : y.cls ≠ "java/lang/invoke/MethodHandle" ∧ y.cls ≠ "java/lang/invoke/VarHandle") (hf : rm.frames + 1 ≤ R.frames) (hl : W + (maxL + 11) + rm.locals ≤ R.locals) (hce : cells + rm.cells ≤ R.cells) (hsl : slots + rm.slots ≤ R.slots) (eT : T.heap = h)
    {g : JFrame} (hg : g.method = m) (hsize : g.locals.size = c.maxLocals) {a : Addr} {argsL rest : List Value} (has : (Value.ref a :: argsL).toArray = as') (hlen : ∀ sig, parseMethodDescriptor y.desc = some sig → argsL.length = sig.parameters.length)
    (hstack : g.stack = argsL.reverse ++ .ref a :: rest) (hW : 2 * g.monitorRoom + (rest.map fun v => v.category).sum ≤ W) (hdg : decode c.code g.pc = .ok (.invokespecial index, 3)) :
    ∃ (v : Option Value) (T' : State) (L : List Loc), Stand p l e R s m args below meth c T' (locs ++ L) (cells + rm.cells) (slots + rm.slots) ∧ Q v T'.heap L ∧
      ∀ {t : State}, Steps p.tables e below (T'.setTop { g with pc := g.pc + 3, stack := v.toList ++ rest }) t → Steps p.tables e below (T.setTop g) t := by
  obtain ⟨v, vm₁, ⟨T', L', k', n'⟩, -, X', ⟨L, hQ, e1, e2, e3⟩, st⟩ := X.specialBack hx hy1 hown (mvT hZ wl) (mvT hZ wi) (mvT hZ wc) hy (backOf (W := W) C hZ wc wz hf hl) hg hsize (Steps.refl _) hlen hstack hW hdg (fun _ _ => ⟨has, eT, hce, hsl⟩)
  dsimp only [Pt.U, Pt.locs, Pt.cells, Pt.slots] at X' e1 e2 e3 st hQ
  subst e1 e2 e3
  exact ⟨v, T', L, X', hQ, fun {t} k => st.trans k⟩
theorem ConH.special {y : MethodName} {bytes : ByteArray} {maxL : Nat} {rm : Room} {as' : Array Value} {Q : Option Value → Heap → List Loc → Prop} {hs : List (Nat × Nat × Nat × Nat)} (C : ConH l Z y bytes maxL none hs [] rm as' h Q) (hy1 : y.name = "<init>")
    (X : Stand p l e R s m args below meth c T locs cells slots) (hx : p.tables.exec = Jvm.exec) (hZ : Z.Warmed39 s.vm) {own : String} {index W : Nat} (hown : s.vm.findClass own = some m.cls)
    (wl : (Cond.methodLink own index y).before a0 Z = true) (wi : (Cond.instanceMethod y).before a0 Z = true) (wz : (Cond.initialized y.cls).before a0 Z = true) (wc : (Cond.codeWith y bytes maxL none hs).before a0 Z = true)
    (hy : y.cls ≠ "java/lang/invoke/MethodHandle" ∧ y.cls ≠ "java/lang/invoke/VarHandle") (hf : rm.frames + 1 ≤ R.frames) (hl : W + (maxL + 11) + rm.locals ≤ R.locals) (hce : cells + rm.cells ≤ R.cells) (hsl : slots + rm.slots ≤ R.slots) (eT : T.heap = h)
    {g : JFrame} (hg : g.method = m) (hsize : g.locals.size = c.maxLocals) {a : Addr} {argsL rest : List Value} (has : (Value.ref a :: argsL).toArray = as') (hlen : ∀ sig, parseMethodDescriptor y.desc = some sig → argsL.length = sig.parameters.length)
    (hstack : g.stack = argsL.reverse ++ .ref a :: rest) (hW : 2 * g.monitorRoom + (rest.map fun v => v.category).sum ≤ W) (hdg : decode c.code g.pc = .ok (.invokespecial index, 3)) :
    ∃ (v : Option Value) (T' : State) (L : List Loc), Stand p l e R s m args below meth c T' (locs ++ L) (cells + rm.cells) (slots + rm.slots) ∧ Q v T'.heap L ∧
      ∀ {t : State}, Steps p.tables e below (T'.setTop { g with pc := g.pc + 3, stack := v.toList ++ rest }) t → Steps p.tables e below (T.setTop g) t := by
  obtain ⟨v, vm₁, ⟨T', L', k', n'⟩, -, X', ⟨L, hQ, e1, e2, e3⟩, st⟩ := X.specialBackH hx hy1 hown (mvT hZ wl) (mvT hZ wi) (mvT hZ wc) hy (backOfWith (W := W) C hZ wc wz hf hl) hg hsize (Steps.refl _) hlen hstack hW hdg (fun _ _ => ⟨has, eT, hce, hsl⟩)
  dsimp only [Pt.U, Pt.locs, Pt.cells, Pt.slots] at X' e1 e2 e3 st hQ
  subst e1 e2 e3
  exact ⟨v, T', L, X', hQ, fun {t} k => st.trans k⟩
theorem Con.virtual {y : MethodName} {bytes : ByteArray} {maxL : Nat} {ret : Option FieldType} {rm : Room} {as' : Array Value} {Q : Option Value → Heap → List Loc → Prop} (K : Con l Z y bytes maxL ret [] rm as' h Q)
    (X : Stand p l e R s m args below meth c T locs cells slots) (hx : p.tables.exec = Jvm.exec) (hZ : Z.Warmed39 s.vm) {own C : String} {index W : Nat} (hown : s.vm.findClass own = some m.cls)
    (wl : (Cond.methodLink own index y).before a0 Z = true) (wd : (Cond.declares y).before a0 Z = true) (wsel : (Cond.selects C y y).before a0 Z = true) (wi : (Cond.instanceMethod y).before a0 Z = true) (wz : (Cond.initialized y.cls).before a0 Z = true) (wc : (Cond.code y bytes maxL ret).before a0 Z = true)
    (hy : y.cls ≠ "java/lang/invoke/MethodHandle" ∧ y.cls ≠ "java/lang/invoke/VarHandle") (hf : rm.frames + 1 ≤ R.frames) (hl : W + (maxL + 11) + rm.locals ≤ R.locals) (hce : cells + rm.cells ≤ R.cells) (hsl : slots + rm.slots ≤ R.slots) (eT : T.heap = h)
    {g : JFrame} (hg : g.method = m) (hsize : g.locals.size = c.maxLocals) {a : Addr} (E : Exa Z h a C) {argsL rest : List Value} (has : (Value.ref a :: argsL).toArray = as') (hlen : ∀ sig, parseMethodDescriptor y.desc = some sig → argsL.length = sig.parameters.length)
    (hstack : g.stack = argsL.reverse ++ .ref a :: rest) (hW : 2 * g.monitorRoom + (rest.map fun v => v.category).sum ≤ W) (hdg : decode c.code g.pc = .ok (.invokevirtual index, 3)) :
    ∃ (v : Option Value) (T' : State) (L : List Loc), Stand p l e R s m args below meth c T' (locs ++ L) (cells + rm.cells) (slots + rm.slots) ∧ Q v T'.heap L ∧
      ∀ {t : State}, Steps p.tables e below (T'.setTop { g with pc := g.pc + 3, stack := v.toList ++ rest }) t → Steps p.tables e below (T.setTop g) t := by
  obtain ⟨cq, kq, qa, qb, qc⟩ := isOf hZ eT E
  obtain ⟨v, vm₁, ⟨T', L', k', n'⟩, -, X', ⟨L, hQ, e1, e2, e3⟩, st⟩ := X.virtualBack hx hown (mvT hZ wl) (mvT hZ wd) (notFace_of_selects (args := #[]) (mvT hZ wsel)) (mvT hZ wsel) (mvT hZ wi) hy (backOf (W := W) K hZ wc wz hf hl) qa qc hg hsize (Steps.refl _) hlen hstack hW hdg (fun _ _ => ⟨has, eT, hce, hsl⟩)
  dsimp only [Pt.U, Pt.locs, Pt.cells, Pt.slots] at X' e1 e2 e3 st hQ
  subst e1 e2 e3
  exact ⟨v, T', L, X', hQ, fun {t} k => st.trans k⟩
theorem Con.priv {y : MethodName} {bytes : ByteArray} {maxL : Nat} {ret : Option FieldType} {rm : Room} {as' : Array Value} {Q : Option Value → Heap → List Loc → Prop} (K : Con l Z y bytes maxL ret [] rm as' h Q)
    (X : Stand p l e R s m args below meth c T locs cells slots) (hx : p.tables.exec = Jvm.exec) (hZ : Z.Warmed39 s.vm) {own C : String} {index W kk : Nat} (hown : s.vm.findClass own = some m.cls)
    (wl : (Cond.methodLink own index y).before a0 Z = true) (wn : (Cond.instantiable y.cls kk).before a0 Z = true) (wp : (Cond.privateMethod y).before a0 Z = true) (wi : (Cond.instanceMethod y).before a0 Z = true) (wz : (Cond.initialized y.cls).before a0 Z = true) (wc : (Cond.code y bytes maxL ret).before a0 Z = true)
    (hy : y.cls ≠ "java/lang/invoke/MethodHandle" ∧ y.cls ≠ "java/lang/invoke/VarHandle") (hf : rm.frames + 1 ≤ R.frames) (hl : W + (maxL + 11) + rm.locals ≤ R.locals) (hce : cells + rm.cells ≤ R.cells) (hsl : slots + rm.slots ≤ R.slots) (eT : T.heap = h)
    {g : JFrame} (hg : g.method = m) (hsize : g.locals.size = c.maxLocals) {a : Addr} (E : Exa Z h a C) {argsL rest : List Value} (has : (Value.ref a :: argsL).toArray = as') (hlen : ∀ sig, parseMethodDescriptor y.desc = some sig → argsL.length = sig.parameters.length)
    (hstack : g.stack = argsL.reverse ++ .ref a :: rest) (hW : 2 * g.monitorRoom + (rest.map fun v => v.category).sum ≤ W) (hdg : decode c.code g.pc = .ok (.invokevirtual index, 3)) :
    ∃ (v : Option Value) (T' : State) (L : List Loc), Stand p l e R s m args below meth c T' (locs ++ L) (cells + rm.cells) (slots + rm.slots) ∧ Q v T'.heap L ∧
      ∀ {t : State}, Steps p.tables e below (T'.setTop { g with pc := g.pc + 3, stack := v.toList ++ rest }) t → Steps p.tables e below (T.setTop g) t := by
  have hpa : s.PrivateAt y := Cond.privateMethod_at (mvP hZ wp (args := args))
  have win : (Cond.instanceMethod y).before args s = true := mvT hZ wi
  have wnn : (Cond.instantiable y.cls kk).before args s = true := mvT hZ wn
  obtain ⟨ci, ki, i1, i2, i3, i4, -⟩ := Cond.instantiable_spec wnn
  have hni : ki.isInterface = false := (Bool.or_eq_false_iff.mp i4).1
  obtain ⟨cl, hcl, hob⟩ := E.cell
  obtain ⟨v, vm₁, ⟨T', L', k', n'⟩, -, X', ⟨L, hQ, e1, e2, e3⟩, st⟩ := X.privateBack hx hown (mvT hZ wl) win (selects_self_of_private i1 i2 hni hpa win hy) hpa (mvT hZ wc) hy (backOf (W := W) K hZ wc wz hf hl) hg hsize (Steps.refl _) (by rw [eT]; exact hcl) hob hlen hstack hW hdg (fun _ _ => ⟨has, eT, hce, hsl⟩)
  dsimp only [Pt.U, Pt.locs, Pt.cells, Pt.slots] at X' e1 e2 e3 st hQ
  subst e1 e2 e3
  exact ⟨v, T', L, X', hQ, fun {t} k => st.trans k⟩
theorem Con.virtualUp {x z : MethodName} {bytes : ByteArray} {maxL : Nat} {ret : Option FieldType} {rm : Room} {as' : Array Value} {Q : Option Value → Heap → List Loc → Prop} (K : Con l Z z bytes maxL ret [] rm as' h Q)
    (X : Stand p l e R s m args below meth c T locs cells slots) (hx : p.tables.exec = Jvm.exec) (hZ : Z.Warmed39 s.vm) {own C owner : String} {index W : Nat} (hown : s.vm.findClass own = some m.cls)
    (wl : (Cond.methodLink own index x).before a0 Z = true) (wsm : (Cond.sameMethod x.cls owner x.name x.desc).before a0 Z = true) (wd : (Cond.declares ⟨owner, x.name, x.desc⟩).before a0 Z = true) (wsel : (Cond.selects C x z).before a0 Z = true) (wi : (Cond.instanceMethod z).before a0 Z = true) (wz : (Cond.initialized z.cls).before a0 Z = true) (wc : (Cond.code z bytes maxL ret).before a0 Z = true)
    (ho : owner ≠ "java/lang/invoke/MethodHandle" ∧ owner ≠ "java/lang/invoke/VarHandle") (hf : rm.frames + 1 ≤ R.frames) (hl : W + (maxL + 11) + rm.locals ≤ R.locals) (hce : cells + rm.cells ≤ R.cells) (hsl : slots + rm.slots ≤ R.slots) (eT : T.heap = h)
    {g : JFrame} (hg : g.method = m) (hsize : g.locals.size = c.maxLocals) {a : Addr} (E : Exa Z h a C) {argsL rest : List Value} (has : (Value.ref a :: argsL).toArray = as') (hlen : ∀ sig, parseMethodDescriptor x.desc = some sig → argsL.length = sig.parameters.length)
    (hstack : g.stack = argsL.reverse ++ .ref a :: rest) (hW : 2 * g.monitorRoom + (rest.map fun v => v.category).sum ≤ W) (hdg : decode c.code g.pc = .ok (.invokevirtual index, 3)) :
    ∃ (v : Option Value) (T' : State) (L : List Loc), Stand p l e R s m args below meth c T' (locs ++ L) (cells + rm.cells) (slots + rm.slots) ∧ Q v T'.heap L ∧
      ∀ {t : State}, Steps p.tables e below (T'.setTop { g with pc := g.pc + 3, stack := v.toList ++ rest }) t → Steps p.tables e below (T.setTop g) t := by
  obtain ⟨cq, kq, qa, qb, qc⟩ := isOf hZ eT E
  obtain ⟨v, vm₁, ⟨T', L', k', n'⟩, -, X', ⟨L, hQ, e1, e2, e3⟩, st⟩ := X.virtualBackUp hx hown (mvT hZ wl) (mvT hZ wsm) (mvT hZ wd) ho (mvT hZ wsel) (mvT hZ wi) (backOf (W := W) K hZ wc wz hf hl) qa qc hg hsize (Steps.refl _) hlen hstack hW hdg (fun _ _ => ⟨has, eT, hce, hsl⟩)
  dsimp only [Pt.U, Pt.locs, Pt.cells, Pt.slots] at X' e1 e2 e3 st hQ
  subst e1 e2 e3
  exact ⟨v, T', L, X', hQ, fun {t} k => st.trans k⟩
/-- the cell of an object is one that the model knows -/
def Kn (h : Heap) (a : Addr) : Prop := ∃ cell : Cell, h[a]? = some cell ∧ cell.vm ≠ .unknown
theorem Kn.of_new {h' : Heap} {a : Addr} (u : ∃ cell : Cell, h'[a]? = some cell ∧ cell.vm = .none ∧ cell.monitor = {}) : Kn h' a := by obtain ⟨c, h1, h2, -⟩ := u; exact ⟨c, h1, by rw [h2]; simp⟩
theorem Kn.ext {h h' : Heap} {a : Addr} (F : Kn h a) (E : Ext h h') : Kn h' a := by obtain ⟨c, h1, h2⟩ := F; exact ⟨c, E.2 _ _ h1, h2⟩
theorem Kn.keep {h h' : Heap} {a : Addr} {ws : List Addr} (F : Kn h a) (K : Keep h h' ws) : Kn h' a := by
  obtain ⟨c, h1, h2⟩ := F; obtain ⟨c', q, -, q2, -⟩ := K.2.2 a c h1; exact ⟨c', q, by rw [q2]; exact h2⟩
theorem Kn.wr {h h' : Heap} {a b : Addr} {sl : Nat} {v : Value} (F : Kn h a) (W : Wr h h' b sl v) : Kn h' a := F.keep (Keep.of_wr W)
theorem Kn.fld {h : Heap} {a : Addr} {O n d : String} {v : Value} {Z : State} (F : Fld Z h a O n d v) : Kn h a := by obtain ⟨c, _, _, _, _, h1, -, -, h4, -⟩ := F; exact ⟨c, h1, h4⟩
theorem lremM {g : JFrame} {target : State} (X : Stand p l e R s m args below meth c T locs cells slots) (hx : p.tables.exec = Jvm.exec) (hg : g.method = m) {x y : Int64} {rest : List Value} (hd : decode c.code g.pc = .ok (.lrem, 1)) (hs : g.stack = .long y :: .long x :: rest) (hy : y ≠ 0)
    (hr : Steps p.tables e below (T.setTop { g with pc := g.pc + 1, stack := .long (x % y) :: rest }) target) : Steps p.tables e below (T.setTop g) target := by
  exact XT.lrem X.here hx hg hd hs hy (by rw [lrem_mod]; exact hr)
theorem Sta.own_keep {Z : State} {h h' : Heap} {C n d : String} {v : Value} {ws : List Addr} (F : Sta Z h C n d v) (K : Keep h h' ws) (q : ∀ a ∈ ws, ∃ C', Exa Z h a C') : Sta Z h' C n d v := by
  obtain ⟨cf, i, k, f, st, cell, h1, h2, h3, h4, h5, h6, h7⟩ := F
  refine ⟨cf, i, k, f, st, cell, h1, h2, h3, h4, K.2.1 st cell h5 fun hm => ?_, h6, h7⟩
  obtain ⟨C', c2, _, g1, -, -, g4, -⟩ := q st hm
  cases h5.symm.trans g1
  rw [h6] at g4; cases g4
theorem own_nar {t : FieldType} {v : Value} (h : v.isRef = true) (ht : t.isReference = true) : narrow t v = v := by
  rcases ref_cases h with rfl | ⟨z, rfl⟩ <;> cases t <;> first | rfl | (cases ht)
theorem own_fit {t : FieldType} {v : Value} (h : v.isRef = true) (ht : t.isReference = true) : fits t v = true := by
  rcases ref_cases h with rfl | ⟨z, rfl⟩ <;> cases t <;> first | rfl | (cases ht)
theorem own_eq_int {t : Term} {k : Int32} {args : Array Value} {first s : State} {o : Option Outcome} {idx : List Nat} (h : (Cond.eq t (Term.int k)).value args first o s idx = some true) : t.eval args first o idx s = some (.int k) := by
  simp only [Cond.value, Term.eval] at h
  cases ht : t.eval args first o idx s with
  | none => simp [ht] at h
  | some x => cases x <;> simp [ht] at h ⊢; exact h
theorem pop2L {g : JFrame} {target : State} (X : Stand p l e R s m args below meth c T locs cells slots) (hx : p.tables.exec = Jvm.exec) (hg : g.method = m) {x : Int64} {rest : List Value} (hd : decode c.code g.pc = .ok (.pop2, 1)) (hs : g.stack = .long x :: rest)
    (hr : Steps p.tables e below (T.setTop { g with pc := g.pc + 1, stack := rest }) target) : Steps p.tables e below (T.setTop g) target := by
  subst hg
  jvm_step X.here [X.here.top, hx, hd, Op.pop2.wp_sem, hs, Value.category]
  exact hr
theorem own_tdiv (D k : Int) : (0 ≤ D ∧ D.tdiv k = D / k) ∨ (D < 0 ∧ D.tdiv k = -((-D) / k)) := by
  rcases Int.lt_or_le D 0 with h | h
  · refine Or.inr ⟨h, ?_⟩
    have e : D.tdiv k = -((-D).tdiv k) := by rw [Int.neg_tdiv]; omega
    rw [e, Int.tdiv_eq_ediv_of_nonneg (by omega)]
  · exact Or.inl ⟨h, Int.tdiv_eq_ediv_of_nonneg h⟩
theorem own_tmod (D k : Int) : (0 ≤ D ∧ D.tmod k = D % k) ∨ (D < 0 ∧ D.tmod k = -((-D) % k)) := by
  rcases Int.lt_or_le D 0 with h | h
  · refine Or.inr ⟨h, ?_⟩
    have e : D.tmod k = -((-D).tmod k) := by rw [Int.neg_tmod]; omega
    rw [e, Int.tmod_eq_emod_of_nonneg (by omega)]
  · exact Or.inl ⟨h, Int.tmod_eq_emod_of_nonneg h⟩
end Walk
end Jvm.OwnKit
namespace Jvm.Pilot.@@N@@
open Jvm Jvm.ClassFile Sem Op Lib Jvm.Free Jvm.Stand Jvm.LawKit Jvm.RoadKit Bundle Jvm.Pilot.@@N@@.Jvm.D Jvm.OwnKit
def own_f1 (cv : Int32) : Int32 := (if cv < (97 : Int32) then (if cv < (65 : Int32) then (if cv < (48 : Int32) then (if cv = (95 : Int32) then (1 : Int32) else (0 : Int32)) else (if (57 : Int32) < cv then (if cv = (95 : Int32) then (1 : Int32) else (0 : Int32)) else (1 : Int32))) else (if (90 : Int32) < cv then (if cv < (48 : Int32) then (if cv = (95 : Int32) then (1 : Int32) else (0 : Int32)) else (if (57 : Int32) < cv then (if cv = (95 : Int32) then (1 : Int32) else (0 : Int32)) else (1 : Int32))) else (1 : Int32))) else (if (122 : Int32) < cv then (if cv < (65 : Int32) then (if cv < (48 : Int32) then (if cv = (95 : Int32) then (1 : Int32) else (0 : Int32)) else (if (57 : Int32) < cv then (if cv = (95 : Int32) then (1 : Int32) else (0 : Int32)) else (1 : Int32))) else (if (90 : Int32) < cv then (if cv < (48 : Int32) then (if cv = (95 : Int32) then (1 : Int32) else (0 : Int32)) else (if (57 : Int32) < cv then (if cv = (95 : Int32) then (1 : Int32) else (0 : Int32)) else (1 : Int32))) else (1 : Int32))) else (1 : Int32)))
theorem own_ef1 (m : MethodId) (cv : Int32) : entryFrame m #[(.int cv)] 1 = mkF m 0 #[.val (.int cv)] [] := by
  (first | (simp [entryFrame, mkF, argsToLocals, Value.category]; done) | rfl)
theorem own_pn_0 : plainName "com/example/impart/impart/Names" = true := by first | (simp [plainName, overriddenIn]; done) | decide +kernel
theorem own_d1_0 : decode prog_31_method_2_code 0 = .ok (.iload_n 0, 1) := by decide +kernel
theorem own_d1_1 : decode prog_31_method_2_code 1 = .ok (.bipush 97, 2) := by decide +kernel
theorem own_d1_3 : decode prog_31_method_2_code 3 = .ok (.if_icmp .lt 9, 3) := by decide +kernel
theorem own_d1_12 : decode prog_31_method_2_code 12 = .ok (.iload_n 0, 1) := by decide +kernel
theorem own_d1_13 : decode prog_31_method_2_code 13 = .ok (.bipush 65, 2) := by decide +kernel
theorem own_d1_15 : decode prog_31_method_2_code 15 = .ok (.if_icmp .lt 9, 3) := by decide +kernel
theorem own_d1_24 : decode prog_31_method_2_code 24 = .ok (.iload_n 0, 1) := by decide +kernel
theorem own_d1_25 : decode prog_31_method_2_code 25 = .ok (.bipush 48, 2) := by decide +kernel
theorem own_d1_27 : decode prog_31_method_2_code 27 = .ok (.if_icmp .lt 9, 3) := by decide +kernel
theorem own_d1_36 : decode prog_31_method_2_code 36 = .ok (.iload_n 0, 1) := by decide +kernel
theorem own_d1_37 : decode prog_31_method_2_code 37 = .ok (.bipush 95, 2) := by decide +kernel
theorem own_d1_39 : decode prog_31_method_2_code 39 = .ok (.if_icmp .ne 7, 3) := by decide +kernel
theorem own_d1_42 : decode prog_31_method_2_code 42 = .ok (.iconst 1, 1) := by decide +kernel
theorem own_d1_43 : decode prog_31_method_2_code 43 = .ok (.goto 4, 3) := by decide +kernel
theorem own_d1_47 : decode prog_31_method_2_code 47 = .ok (.ireturn, 1) := by decide +kernel
theorem own_d1_46 : decode prog_31_method_2_code 46 = .ok (.iconst 0, 1) := by decide +kernel
theorem own_d1_30 : decode prog_31_method_2_code 30 = .ok (.iload_n 0, 1) := by decide +kernel
theorem own_d1_31 : decode prog_31_method_2_code 31 = .ok (.bipush 57, 2) := by decide +kernel
theorem own_d1_33 : decode prog_31_method_2_code 33 = .ok (.if_icmp .le 9, 3) := by decide +kernel
theorem own_d1_18 : decode prog_31_method_2_code 18 = .ok (.iload_n 0, 1) := by decide +kernel
theorem own_d1_19 : decode prog_31_method_2_code 19 = .ok (.bipush 90, 2) := by decide +kernel
theorem own_d1_21 : decode prog_31_method_2_code 21 = .ok (.if_icmp .le 21, 3) := by decide +kernel
theorem own_d1_6 : decode prog_31_method_2_code 6 = .ok (.iload_n 0, 1) := by decide +kernel
theorem own_d1_7 : decode prog_31_method_2_code 7 = .ok (.bipush 122, 2) := by decide +kernel
theorem own_d1_9 : decode prog_31_method_2_code 9 = .ok (.if_icmp .le 33, 3) := by decide +kernel
set_option maxRecDepth 65536 in
set_option maxHeartbeats 40000000 in
theorem own_rm1 (l : Launch) (Z : State) (a0 : Array Value) (hw : ∀ d ∈ tables_1, d.before a0 Z = true) (ws : List Jvm.Cond) (cv : Int32) (h0 : Heap) (n0 : Nat) (Z0 : n0 ≤ h0.size)   :
    Con l Z (⟨"com/example/impart/impart/Names", "isStart", "(I)Z"⟩ : MethodName) prog_31_method_2_code 1 (some .boolean) ws ({ frames := 0, cells := 0, slots := 0, locals := 0 } : Room) #[(.int cv)] h0 (fun v h L => v = some (.int (own_f1 cv)) ∧ Fr n0 L ∧ h = h0) := by
  refine Con.intro (plainFor_of_name own_pn_0) ?_
  intro p e s m below meth c s₁ P hx hby hml hown hnm hret hlk hZ X0 e0 hP
  have N0 := Fr.nil n0
  have hown : s.vm.findClass "com/example/impart/impart/Names" = some m.cls := hown
  refine Go.cast (own_ef1 m cv) ?_
  show Go p.tables e below P (s₁.setTop (mkF m 0 #[.val (.int cv)] []))
  refine Go.s (fun k => XS.iloadN X0.here hx rfl (hb hby own_d1_0) rfl k) ?_
  show Go p.tables e below P (s₁.setTop (mkF m 1 #[.val (.int cv)] [(.int cv)]))
  refine Go.s (fun k => XS.bipush X0.here hx rfl (hb hby own_d1_1) k) ?_
  show Go p.tables e below P (s₁.setTop (mkF m 3 #[.val (.int cv)] [(.int (97 : Int32)), (.int cv)]))
  by_cases hc3 : cv < (97 : Int32)
  · skip
    refine Go.s (fun k => XS.icmpYes X0.here hx rfl (pc0 := 3) (pc' := 12) rfl (hb hby own_d1_3) rfl (XT.ii_lt_t hc3) (by decide) (by decide) k) ?_
    show Go p.tables e below P (s₁.setTop (mkF m 12 #[.val (.int cv)] []))
    refine Go.s (fun k => XS.iloadN X0.here hx rfl (hb hby own_d1_12) rfl k) ?_
    show Go p.tables e below P (s₁.setTop (mkF m 13 #[.val (.int cv)] [(.int cv)]))
    refine Go.s (fun k => XS.bipush X0.here hx rfl (hb hby own_d1_13) k) ?_
    show Go p.tables e below P (s₁.setTop (mkF m 15 #[.val (.int cv)] [(.int (65 : Int32)), (.int cv)]))
    by_cases hc15 : cv < (65 : Int32)
    · skip
      refine Go.s (fun k => XS.icmpYes X0.here hx rfl (pc0 := 15) (pc' := 24) rfl (hb hby own_d1_15) rfl (XT.ii_lt_t hc15) (by decide) (by decide) k) ?_
      show Go p.tables e below P (s₁.setTop (mkF m 24 #[.val (.int cv)] []))
      refine Go.s (fun k => XS.iloadN X0.here hx rfl (hb hby own_d1_24) rfl k) ?_
      show Go p.tables e below P (s₁.setTop (mkF m 25 #[.val (.int cv)] [(.int cv)]))
      refine Go.s (fun k => XS.bipush X0.here hx rfl (hb hby own_d1_25) k) ?_
      show Go p.tables e below P (s₁.setTop (mkF m 27 #[.val (.int cv)] [(.int (48 : Int32)), (.int cv)]))
      by_cases hc27 : cv < (48 : Int32)
      · skip
        refine Go.s (fun k => XS.icmpYes X0.here hx rfl (pc0 := 27) (pc' := 36) rfl (hb hby own_d1_27) rfl (XT.ii_lt_t hc27) (by decide) (by decide) k) ?_
        show Go p.tables e below P (s₁.setTop (mkF m 36 #[.val (.int cv)] []))
        refine Go.s (fun k => XS.iloadN X0.here hx rfl (hb hby own_d1_36) rfl k) ?_
        show Go p.tables e below P (s₁.setTop (mkF m 37 #[.val (.int cv)] [(.int cv)]))
        refine Go.s (fun k => XS.bipush X0.here hx rfl (hb hby own_d1_37) k) ?_
        show Go p.tables e below P (s₁.setTop (mkF m 39 #[.val (.int cv)] [(.int (95 : Int32)), (.int cv)]))
        by_cases hc39 : cv = (95 : Int32)
        · skip
          refine Go.s (fun k => XS.icmpNo X0.here hx rfl (hb hby own_d1_39) rfl (XT.ii_ne_f hc39) k) ?_
          show Go p.tables e below P (s₁.setTop (mkF m 42 #[.val (.int cv)] []))
          refine Go.s (fun k => XS.iconst X0.here hx rfl (hb hby own_d1_42) k) ?_
          show Go p.tables e below P (s₁.setTop (mkF m 43 #[.val (.int cv)] [(.int (1 : Int32))]))
          refine Go.s (fun k => XS.goto X0.here hx rfl (pc0 := 43) (pc' := 47) rfl (hb hby own_d1_43) (by decide) (by decide) k) ?_
          show Go p.tables e below P (s₁.setTop (mkF m 47 #[.val (.int cv)] [(.int (1 : Int32))]))
          exact Go.retZ X0 hx hlk hret (by decide) (hb hby own_d1_47) (fun U hU hF => hP U _ _ (by rw [hU, e0]; exact ⟨congrArg some (congrArg Value.int (Eq.symm (by rw [own_f1]; rw [if_pos hc3]; rw [if_pos hc15]; rw [if_pos hc27]; rw [if_pos hc39]))), N0, rfl⟩) ⟨hF.1, hF.2.1, hF.2.2.mono (by decide) (by decide)⟩)
        · skip
          refine Go.s (fun k => XS.icmpYes X0.here hx rfl (pc0 := 39) (pc' := 46) rfl (hb hby own_d1_39) rfl (XT.ii_ne_t hc39) (by decide) (by decide) k) ?_
          show Go p.tables e below P (s₁.setTop (mkF m 46 #[.val (.int cv)] []))
          refine Go.s (fun k => XS.iconst X0.here hx rfl (hb hby own_d1_46) k) ?_
          show Go p.tables e below P (s₁.setTop (mkF m 47 #[.val (.int cv)] [(.int (0 : Int32))]))
          exact Go.retZ X0 hx hlk hret (by decide) (hb hby own_d1_47) (fun U hU hF => hP U _ _ (by rw [hU, e0]; exact ⟨congrArg some (congrArg Value.int (Eq.symm (by rw [own_f1]; rw [if_pos hc3]; rw [if_pos hc15]; rw [if_pos hc27]; rw [if_neg hc39]))), N0, rfl⟩) ⟨hF.1, hF.2.1, hF.2.2.mono (by decide) (by decide)⟩)
      · skip
        refine Go.s (fun k => XS.icmpNo X0.here hx rfl (hb hby own_d1_27) rfl (XT.ii_lt_f hc27) k) ?_
        show Go p.tables e below P (s₁.setTop (mkF m 30 #[.val (.int cv)] []))
        refine Go.s (fun k => XS.iloadN X0.here hx rfl (hb hby own_d1_30) rfl k) ?_
        show Go p.tables e below P (s₁.setTop (mkF m 31 #[.val (.int cv)] [(.int cv)]))
        refine Go.s (fun k => XS.bipush X0.here hx rfl (hb hby own_d1_31) k) ?_
        show Go p.tables e below P (s₁.setTop (mkF m 33 #[.val (.int cv)] [(.int (57 : Int32)), (.int cv)]))
        by_cases hc33 : (57 : Int32) < cv
        · skip
          refine Go.s (fun k => XS.icmpNo X0.here hx rfl (hb hby own_d1_33) rfl (XT.ii_le_f hc33) k) ?_
          show Go p.tables e below P (s₁.setTop (mkF m 36 #[.val (.int cv)] []))
          refine Go.s (fun k => XS.iloadN X0.here hx rfl (hb hby own_d1_36) rfl k) ?_
          show Go p.tables e below P (s₁.setTop (mkF m 37 #[.val (.int cv)] [(.int cv)]))
          refine Go.s (fun k => XS.bipush X0.here hx rfl (hb hby own_d1_37) k) ?_
          show Go p.tables e below P (s₁.setTop (mkF m 39 #[.val (.int cv)] [(.int (95 : Int32)), (.int cv)]))
          by_cases hc39 : cv = (95 : Int32)
          · skip
            refine Go.s (fun k => XS.icmpNo X0.here hx rfl (hb hby own_d1_39) rfl (XT.ii_ne_f hc39) k) ?_
            show Go p.tables e below P (s₁.setTop (mkF m 42 #[.val (.int cv)] []))
            refine Go.s (fun k => XS.iconst X0.here hx rfl (hb hby own_d1_42) k) ?_
            show Go p.tables e below P (s₁.setTop (mkF m 43 #[.val (.int cv)] [(.int (1 : Int32))]))
            refine Go.s (fun k => XS.goto X0.here hx rfl (pc0 := 43) (pc' := 47) rfl (hb hby own_d1_43) (by decide) (by decide) k) ?_
            show Go p.tables e below P (s₁.setTop (mkF m 47 #[.val (.int cv)] [(.int (1 : Int32))]))
            exact Go.retZ X0 hx hlk hret (by decide) (hb hby own_d1_47) (fun U hU hF => hP U _ _ (by rw [hU, e0]; exact ⟨congrArg some (congrArg Value.int (Eq.symm (by rw [own_f1]; rw [if_pos hc3]; rw [if_pos hc15]; rw [if_neg hc27]; rw [if_pos hc33]; rw [if_pos hc39]))), N0, rfl⟩) ⟨hF.1, hF.2.1, hF.2.2.mono (by decide) (by decide)⟩)
          · skip
            refine Go.s (fun k => XS.icmpYes X0.here hx rfl (pc0 := 39) (pc' := 46) rfl (hb hby own_d1_39) rfl (XT.ii_ne_t hc39) (by decide) (by decide) k) ?_
            show Go p.tables e below P (s₁.setTop (mkF m 46 #[.val (.int cv)] []))
            refine Go.s (fun k => XS.iconst X0.here hx rfl (hb hby own_d1_46) k) ?_
            show Go p.tables e below P (s₁.setTop (mkF m 47 #[.val (.int cv)] [(.int (0 : Int32))]))
            exact Go.retZ X0 hx hlk hret (by decide) (hb hby own_d1_47) (fun U hU hF => hP U _ _ (by rw [hU, e0]; exact ⟨congrArg some (congrArg Value.int (Eq.symm (by rw [own_f1]; rw [if_pos hc3]; rw [if_pos hc15]; rw [if_neg hc27]; rw [if_pos hc33]; rw [if_neg hc39]))), N0, rfl⟩) ⟨hF.1, hF.2.1, hF.2.2.mono (by decide) (by decide)⟩)
        · skip
          refine Go.s (fun k => XS.icmpYes X0.here hx rfl (pc0 := 33) (pc' := 42) rfl (hb hby own_d1_33) rfl (XT.ii_le_t hc33) (by decide) (by decide) k) ?_
          show Go p.tables e below P (s₁.setTop (mkF m 42 #[.val (.int cv)] []))
          refine Go.s (fun k => XS.iconst X0.here hx rfl (hb hby own_d1_42) k) ?_
          show Go p.tables e below P (s₁.setTop (mkF m 43 #[.val (.int cv)] [(.int (1 : Int32))]))
          refine Go.s (fun k => XS.goto X0.here hx rfl (pc0 := 43) (pc' := 47) rfl (hb hby own_d1_43) (by decide) (by decide) k) ?_
          show Go p.tables e below P (s₁.setTop (mkF m 47 #[.val (.int cv)] [(.int (1 : Int32))]))
          exact Go.retZ X0 hx hlk hret (by decide) (hb hby own_d1_47) (fun U hU hF => hP U _ _ (by rw [hU, e0]; exact ⟨congrArg some (congrArg Value.int (Eq.symm (by rw [own_f1]; rw [if_pos hc3]; rw [if_pos hc15]; rw [if_neg hc27]; rw [if_neg hc33]))), N0, rfl⟩) ⟨hF.1, hF.2.1, hF.2.2.mono (by decide) (by decide)⟩)
    · skip
      refine Go.s (fun k => XS.icmpNo X0.here hx rfl (hb hby own_d1_15) rfl (XT.ii_lt_f hc15) k) ?_
      show Go p.tables e below P (s₁.setTop (mkF m 18 #[.val (.int cv)] []))
      refine Go.s (fun k => XS.iloadN X0.here hx rfl (hb hby own_d1_18) rfl k) ?_
      show Go p.tables e below P (s₁.setTop (mkF m 19 #[.val (.int cv)] [(.int cv)]))
      refine Go.s (fun k => XS.bipush X0.here hx rfl (hb hby own_d1_19) k) ?_
      show Go p.tables e below P (s₁.setTop (mkF m 21 #[.val (.int cv)] [(.int (90 : Int32)), (.int cv)]))
      by_cases hc21 : (90 : Int32) < cv
      · skip
        refine Go.s (fun k => XS.icmpNo X0.here hx rfl (hb hby own_d1_21) rfl (XT.ii_le_f hc21) k) ?_
        show Go p.tables e below P (s₁.setTop (mkF m 24 #[.val (.int cv)] []))
        refine Go.s (fun k => XS.iloadN X0.here hx rfl (hb hby own_d1_24) rfl k) ?_
        show Go p.tables e below P (s₁.setTop (mkF m 25 #[.val (.int cv)] [(.int cv)]))
        refine Go.s (fun k => XS.bipush X0.here hx rfl (hb hby own_d1_25) k) ?_
        show Go p.tables e below P (s₁.setTop (mkF m 27 #[.val (.int cv)] [(.int (48 : Int32)), (.int cv)]))
        by_cases hc27 : cv < (48 : Int32)
        · skip
          refine Go.s (fun k => XS.icmpYes X0.here hx rfl (pc0 := 27) (pc' := 36) rfl (hb hby own_d1_27) rfl (XT.ii_lt_t hc27) (by decide) (by decide) k) ?_
          show Go p.tables e below P (s₁.setTop (mkF m 36 #[.val (.int cv)] []))
          refine Go.s (fun k => XS.iloadN X0.here hx rfl (hb hby own_d1_36) rfl k) ?_
          show Go p.tables e below P (s₁.setTop (mkF m 37 #[.val (.int cv)] [(.int cv)]))
          refine Go.s (fun k => XS.bipush X0.here hx rfl (hb hby own_d1_37) k) ?_
          show Go p.tables e below P (s₁.setTop (mkF m 39 #[.val (.int cv)] [(.int (95 : Int32)), (.int cv)]))
          by_cases hc39 : cv = (95 : Int32)
          · skip
            refine Go.s (fun k => XS.icmpNo X0.here hx rfl (hb hby own_d1_39) rfl (XT.ii_ne_f hc39) k) ?_
            show Go p.tables e below P (s₁.setTop (mkF m 42 #[.val (.int cv)] []))
            refine Go.s (fun k => XS.iconst X0.here hx rfl (hb hby own_d1_42) k) ?_
            show Go p.tables e below P (s₁.setTop (mkF m 43 #[.val (.int cv)] [(.int (1 : Int32))]))
            refine Go.s (fun k => XS.goto X0.here hx rfl (pc0 := 43) (pc' := 47) rfl (hb hby own_d1_43) (by decide) (by decide) k) ?_
            show Go p.tables e below P (s₁.setTop (mkF m 47 #[.val (.int cv)] [(.int (1 : Int32))]))
            exact Go.retZ X0 hx hlk hret (by decide) (hb hby own_d1_47) (fun U hU hF => hP U _ _ (by rw [hU, e0]; exact ⟨congrArg some (congrArg Value.int (Eq.symm (by rw [own_f1]; rw [if_pos hc3]; rw [if_neg hc15]; rw [if_pos hc21]; rw [if_pos hc27]; rw [if_pos hc39]))), N0, rfl⟩) ⟨hF.1, hF.2.1, hF.2.2.mono (by decide) (by decide)⟩)
          · skip
            refine Go.s (fun k => XS.icmpYes X0.here hx rfl (pc0 := 39) (pc' := 46) rfl (hb hby own_d1_39) rfl (XT.ii_ne_t hc39) (by decide) (by decide) k) ?_
            show Go p.tables e below P (s₁.setTop (mkF m 46 #[.val (.int cv)] []))
            refine Go.s (fun k => XS.iconst X0.here hx rfl (hb hby own_d1_46) k) ?_
            show Go p.tables e below P (s₁.setTop (mkF m 47 #[.val (.int cv)] [(.int (0 : Int32))]))
            exact Go.retZ X0 hx hlk hret (by decide) (hb hby own_d1_47) (fun U hU hF => hP U _ _ (by rw [hU, e0]; exact ⟨congrArg some (congrArg Value.int (Eq.symm (by rw [own_f1]; rw [if_pos hc3]; rw [if_neg hc15]; rw [if_pos hc21]; rw [if_pos hc27]; rw [if_neg hc39]))), N0, rfl⟩) ⟨hF.1, hF.2.1, hF.2.2.mono (by decide) (by decide)⟩)
        · skip
          refine Go.s (fun k => XS.icmpNo X0.here hx rfl (hb hby own_d1_27) rfl (XT.ii_lt_f hc27) k) ?_
          show Go p.tables e below P (s₁.setTop (mkF m 30 #[.val (.int cv)] []))
          refine Go.s (fun k => XS.iloadN X0.here hx rfl (hb hby own_d1_30) rfl k) ?_
          show Go p.tables e below P (s₁.setTop (mkF m 31 #[.val (.int cv)] [(.int cv)]))
          refine Go.s (fun k => XS.bipush X0.here hx rfl (hb hby own_d1_31) k) ?_
          show Go p.tables e below P (s₁.setTop (mkF m 33 #[.val (.int cv)] [(.int (57 : Int32)), (.int cv)]))
          by_cases hc33 : (57 : Int32) < cv
          · skip
            refine Go.s (fun k => XS.icmpNo X0.here hx rfl (hb hby own_d1_33) rfl (XT.ii_le_f hc33) k) ?_
            show Go p.tables e below P (s₁.setTop (mkF m 36 #[.val (.int cv)] []))
            refine Go.s (fun k => XS.iloadN X0.here hx rfl (hb hby own_d1_36) rfl k) ?_
            show Go p.tables e below P (s₁.setTop (mkF m 37 #[.val (.int cv)] [(.int cv)]))
            refine Go.s (fun k => XS.bipush X0.here hx rfl (hb hby own_d1_37) k) ?_
            show Go p.tables e below P (s₁.setTop (mkF m 39 #[.val (.int cv)] [(.int (95 : Int32)), (.int cv)]))
            by_cases hc39 : cv = (95 : Int32)
            · skip
              refine Go.s (fun k => XS.icmpNo X0.here hx rfl (hb hby own_d1_39) rfl (XT.ii_ne_f hc39) k) ?_
              show Go p.tables e below P (s₁.setTop (mkF m 42 #[.val (.int cv)] []))
              refine Go.s (fun k => XS.iconst X0.here hx rfl (hb hby own_d1_42) k) ?_
              show Go p.tables e below P (s₁.setTop (mkF m 43 #[.val (.int cv)] [(.int (1 : Int32))]))
              refine Go.s (fun k => XS.goto X0.here hx rfl (pc0 := 43) (pc' := 47) rfl (hb hby own_d1_43) (by decide) (by decide) k) ?_
              show Go p.tables e below P (s₁.setTop (mkF m 47 #[.val (.int cv)] [(.int (1 : Int32))]))
              exact Go.retZ X0 hx hlk hret (by decide) (hb hby own_d1_47) (fun U hU hF => hP U _ _ (by rw [hU, e0]; exact ⟨congrArg some (congrArg Value.int (Eq.symm (by rw [own_f1]; rw [if_pos hc3]; rw [if_neg hc15]; rw [if_pos hc21]; rw [if_neg hc27]; rw [if_pos hc33]; rw [if_pos hc39]))), N0, rfl⟩) ⟨hF.1, hF.2.1, hF.2.2.mono (by decide) (by decide)⟩)
            · skip
              refine Go.s (fun k => XS.icmpYes X0.here hx rfl (pc0 := 39) (pc' := 46) rfl (hb hby own_d1_39) rfl (XT.ii_ne_t hc39) (by decide) (by decide) k) ?_
              show Go p.tables e below P (s₁.setTop (mkF m 46 #[.val (.int cv)] []))
              refine Go.s (fun k => XS.iconst X0.here hx rfl (hb hby own_d1_46) k) ?_
              show Go p.tables e below P (s₁.setTop (mkF m 47 #[.val (.int cv)] [(.int (0 : Int32))]))
              exact Go.retZ X0 hx hlk hret (by decide) (hb hby own_d1_47) (fun U hU hF => hP U _ _ (by rw [hU, e0]; exact ⟨congrArg some (congrArg Value.int (Eq.symm (by rw [own_f1]; rw [if_pos hc3]; rw [if_neg hc15]; rw [if_pos hc21]; rw [if_neg hc27]; rw [if_pos hc33]; rw [if_neg hc39]))), N0, rfl⟩) ⟨hF.1, hF.2.1, hF.2.2.mono (by decide) (by decide)⟩)
          · skip
            refine Go.s (fun k => XS.icmpYes X0.here hx rfl (pc0 := 33) (pc' := 42) rfl (hb hby own_d1_33) rfl (XT.ii_le_t hc33) (by decide) (by decide) k) ?_
            show Go p.tables e below P (s₁.setTop (mkF m 42 #[.val (.int cv)] []))
            refine Go.s (fun k => XS.iconst X0.here hx rfl (hb hby own_d1_42) k) ?_
            show Go p.tables e below P (s₁.setTop (mkF m 43 #[.val (.int cv)] [(.int (1 : Int32))]))
            refine Go.s (fun k => XS.goto X0.here hx rfl (pc0 := 43) (pc' := 47) rfl (hb hby own_d1_43) (by decide) (by decide) k) ?_
            show Go p.tables e below P (s₁.setTop (mkF m 47 #[.val (.int cv)] [(.int (1 : Int32))]))
            exact Go.retZ X0 hx hlk hret (by decide) (hb hby own_d1_47) (fun U hU hF => hP U _ _ (by rw [hU, e0]; exact ⟨congrArg some (congrArg Value.int (Eq.symm (by rw [own_f1]; rw [if_pos hc3]; rw [if_neg hc15]; rw [if_pos hc21]; rw [if_neg hc27]; rw [if_neg hc33]))), N0, rfl⟩) ⟨hF.1, hF.2.1, hF.2.2.mono (by decide) (by decide)⟩)
      · skip
        refine Go.s (fun k => XS.icmpYes X0.here hx rfl (pc0 := 21) (pc' := 42) rfl (hb hby own_d1_21) rfl (XT.ii_le_t hc21) (by decide) (by decide) k) ?_
        show Go p.tables e below P (s₁.setTop (mkF m 42 #[.val (.int cv)] []))
        refine Go.s (fun k => XS.iconst X0.here hx rfl (hb hby own_d1_42) k) ?_
        show Go p.tables e below P (s₁.setTop (mkF m 43 #[.val (.int cv)] [(.int (1 : Int32))]))
        refine Go.s (fun k => XS.goto X0.here hx rfl (pc0 := 43) (pc' := 47) rfl (hb hby own_d1_43) (by decide) (by decide) k) ?_
        show Go p.tables e below P (s₁.setTop (mkF m 47 #[.val (.int cv)] [(.int (1 : Int32))]))
        exact Go.retZ X0 hx hlk hret (by decide) (hb hby own_d1_47) (fun U hU hF => hP U _ _ (by rw [hU, e0]; exact ⟨congrArg some (congrArg Value.int (Eq.symm (by rw [own_f1]; rw [if_pos hc3]; rw [if_neg hc15]; rw [if_neg hc21]))), N0, rfl⟩) ⟨hF.1, hF.2.1, hF.2.2.mono (by decide) (by decide)⟩)
  · skip
    refine Go.s (fun k => XS.icmpNo X0.here hx rfl (hb hby own_d1_3) rfl (XT.ii_lt_f hc3) k) ?_
    show Go p.tables e below P (s₁.setTop (mkF m 6 #[.val (.int cv)] []))
    refine Go.s (fun k => XS.iloadN X0.here hx rfl (hb hby own_d1_6) rfl k) ?_
    show Go p.tables e below P (s₁.setTop (mkF m 7 #[.val (.int cv)] [(.int cv)]))
    refine Go.s (fun k => XS.bipush X0.here hx rfl (hb hby own_d1_7) k) ?_
    show Go p.tables e below P (s₁.setTop (mkF m 9 #[.val (.int cv)] [(.int (122 : Int32)), (.int cv)]))
    by_cases hc9 : (122 : Int32) < cv
    · skip
      refine Go.s (fun k => XS.icmpNo X0.here hx rfl (hb hby own_d1_9) rfl (XT.ii_le_f hc9) k) ?_
      show Go p.tables e below P (s₁.setTop (mkF m 12 #[.val (.int cv)] []))
      refine Go.s (fun k => XS.iloadN X0.here hx rfl (hb hby own_d1_12) rfl k) ?_
      show Go p.tables e below P (s₁.setTop (mkF m 13 #[.val (.int cv)] [(.int cv)]))
      refine Go.s (fun k => XS.bipush X0.here hx rfl (hb hby own_d1_13) k) ?_
      show Go p.tables e below P (s₁.setTop (mkF m 15 #[.val (.int cv)] [(.int (65 : Int32)), (.int cv)]))
      by_cases hc15 : cv < (65 : Int32)
      · skip
        refine Go.s (fun k => XS.icmpYes X0.here hx rfl (pc0 := 15) (pc' := 24) rfl (hb hby own_d1_15) rfl (XT.ii_lt_t hc15) (by decide) (by decide) k) ?_
        show Go p.tables e below P (s₁.setTop (mkF m 24 #[.val (.int cv)] []))
        refine Go.s (fun k => XS.iloadN X0.here hx rfl (hb hby own_d1_24) rfl k) ?_
        show Go p.tables e below P (s₁.setTop (mkF m 25 #[.val (.int cv)] [(.int cv)]))
        refine Go.s (fun k => XS.bipush X0.here hx rfl (hb hby own_d1_25) k) ?_
        show Go p.tables e below P (s₁.setTop (mkF m 27 #[.val (.int cv)] [(.int (48 : Int32)), (.int cv)]))
        by_cases hc27 : cv < (48 : Int32)
        · skip
          refine Go.s (fun k => XS.icmpYes X0.here hx rfl (pc0 := 27) (pc' := 36) rfl (hb hby own_d1_27) rfl (XT.ii_lt_t hc27) (by decide) (by decide) k) ?_
          show Go p.tables e below P (s₁.setTop (mkF m 36 #[.val (.int cv)] []))
          refine Go.s (fun k => XS.iloadN X0.here hx rfl (hb hby own_d1_36) rfl k) ?_
          show Go p.tables e below P (s₁.setTop (mkF m 37 #[.val (.int cv)] [(.int cv)]))
          refine Go.s (fun k => XS.bipush X0.here hx rfl (hb hby own_d1_37) k) ?_
          show Go p.tables e below P (s₁.setTop (mkF m 39 #[.val (.int cv)] [(.int (95 : Int32)), (.int cv)]))
          by_cases hc39 : cv = (95 : Int32)
          · skip
            refine Go.s (fun k => XS.icmpNo X0.here hx rfl (hb hby own_d1_39) rfl (XT.ii_ne_f hc39) k) ?_
            show Go p.tables e below P (s₁.setTop (mkF m 42 #[.val (.int cv)] []))
            refine Go.s (fun k => XS.iconst X0.here hx rfl (hb hby own_d1_42) k) ?_
            show Go p.tables e below P (s₁.setTop (mkF m 43 #[.val (.int cv)] [(.int (1 : Int32))]))
            refine Go.s (fun k => XS.goto X0.here hx rfl (pc0 := 43) (pc' := 47) rfl (hb hby own_d1_43) (by decide) (by decide) k) ?_
            show Go p.tables e below P (s₁.setTop (mkF m 47 #[.val (.int cv)] [(.int (1 : Int32))]))
            exact Go.retZ X0 hx hlk hret (by decide) (hb hby own_d1_47) (fun U hU hF => hP U _ _ (by rw [hU, e0]; exact ⟨congrArg some (congrArg Value.int (Eq.symm (by rw [own_f1]; rw [if_neg hc3]; rw [if_pos hc9]; rw [if_pos hc15]; rw [if_pos hc27]; rw [if_pos hc39]))), N0, rfl⟩) ⟨hF.1, hF.2.1, hF.2.2.mono (by decide) (by decide)⟩)
          · skip
            refine Go.s (fun k => XS.icmpYes X0.here hx rfl (pc0 := 39) (pc' := 46) rfl (hb hby own_d1_39) rfl (XT.ii_ne_t hc39) (by decide) (by decide) k) ?_
            show Go p.tables e below P (s₁.setTop (mkF m 46 #[.val (.int cv)] []))
            refine Go.s (fun k => XS.iconst X0.here hx rfl (hb hby own_d1_46) k) ?_
            show Go p.tables e below P (s₁.setTop (mkF m 47 #[.val (.int cv)] [(.int (0 : Int32))]))
            exact Go.retZ X0 hx hlk hret (by decide) (hb hby own_d1_47) (fun U hU hF => hP U _ _ (by rw [hU, e0]; exact ⟨congrArg some (congrArg Value.int (Eq.symm (by rw [own_f1]; rw [if_neg hc3]; rw [if_pos hc9]; rw [if_pos hc15]; rw [if_pos hc27]; rw [if_neg hc39]))), N0, rfl⟩) ⟨hF.1, hF.2.1, hF.2.2.mono (by decide) (by decide)⟩)
        · skip
          refine Go.s (fun k => XS.icmpNo X0.here hx rfl (hb hby own_d1_27) rfl (XT.ii_lt_f hc27) k) ?_
          show Go p.tables e below P (s₁.setTop (mkF m 30 #[.val (.int cv)] []))
          refine Go.s (fun k => XS.iloadN X0.here hx rfl (hb hby own_d1_30) rfl k) ?_
          show Go p.tables e below P (s₁.setTop (mkF m 31 #[.val (.int cv)] [(.int cv)]))
          refine Go.s (fun k => XS.bipush X0.here hx rfl (hb hby own_d1_31) k) ?_
          show Go p.tables e below P (s₁.setTop (mkF m 33 #[.val (.int cv)] [(.int (57 : Int32)), (.int cv)]))
          by_cases hc33 : (57 : Int32) < cv
          · skip
            refine Go.s (fun k => XS.icmpNo X0.here hx rfl (hb hby own_d1_33) rfl (XT.ii_le_f hc33) k) ?_
            show Go p.tables e below P (s₁.setTop (mkF m 36 #[.val (.int cv)] []))
            refine Go.s (fun k => XS.iloadN X0.here hx rfl (hb hby own_d1_36) rfl k) ?_
            show Go p.tables e below P (s₁.setTop (mkF m 37 #[.val (.int cv)] [(.int cv)]))
            refine Go.s (fun k => XS.bipush X0.here hx rfl (hb hby own_d1_37) k) ?_
            show Go p.tables e below P (s₁.setTop (mkF m 39 #[.val (.int cv)] [(.int (95 : Int32)), (.int cv)]))
            by_cases hc39 : cv = (95 : Int32)
            · skip
              refine Go.s (fun k => XS.icmpNo X0.here hx rfl (hb hby own_d1_39) rfl (XT.ii_ne_f hc39) k) ?_
              show Go p.tables e below P (s₁.setTop (mkF m 42 #[.val (.int cv)] []))
              refine Go.s (fun k => XS.iconst X0.here hx rfl (hb hby own_d1_42) k) ?_
              show Go p.tables e below P (s₁.setTop (mkF m 43 #[.val (.int cv)] [(.int (1 : Int32))]))
              refine Go.s (fun k => XS.goto X0.here hx rfl (pc0 := 43) (pc' := 47) rfl (hb hby own_d1_43) (by decide) (by decide) k) ?_
              show Go p.tables e below P (s₁.setTop (mkF m 47 #[.val (.int cv)] [(.int (1 : Int32))]))
              exact Go.retZ X0 hx hlk hret (by decide) (hb hby own_d1_47) (fun U hU hF => hP U _ _ (by rw [hU, e0]; exact ⟨congrArg some (congrArg Value.int (Eq.symm (by rw [own_f1]; rw [if_neg hc3]; rw [if_pos hc9]; rw [if_pos hc15]; rw [if_neg hc27]; rw [if_pos hc33]; rw [if_pos hc39]))), N0, rfl⟩) ⟨hF.1, hF.2.1, hF.2.2.mono (by decide) (by decide)⟩)
            · skip
              refine Go.s (fun k => XS.icmpYes X0.here hx rfl (pc0 := 39) (pc' := 46) rfl (hb hby own_d1_39) rfl (XT.ii_ne_t hc39) (by decide) (by decide) k) ?_
              show Go p.tables e below P (s₁.setTop (mkF m 46 #[.val (.int cv)] []))
              refine Go.s (fun k => XS.iconst X0.here hx rfl (hb hby own_d1_46) k) ?_
              show Go p.tables e below P (s₁.setTop (mkF m 47 #[.val (.int cv)] [(.int (0 : Int32))]))
              exact Go.retZ X0 hx hlk hret (by decide) (hb hby own_d1_47) (fun U hU hF => hP U _ _ (by rw [hU, e0]; exact ⟨congrArg some (congrArg Value.int (Eq.symm (by rw [own_f1]; rw [if_neg hc3]; rw [if_pos hc9]; rw [if_pos hc15]; rw [if_neg hc27]; rw [if_pos hc33]; rw [if_neg hc39]))), N0, rfl⟩) ⟨hF.1, hF.2.1, hF.2.2.mono (by decide) (by decide)⟩)
          · skip
            refine Go.s (fun k => XS.icmpYes X0.here hx rfl (pc0 := 33) (pc' := 42) rfl (hb hby own_d1_33) rfl (XT.ii_le_t hc33) (by decide) (by decide) k) ?_
            show Go p.tables e below P (s₁.setTop (mkF m 42 #[.val (.int cv)] []))
            refine Go.s (fun k => XS.iconst X0.here hx rfl (hb hby own_d1_42) k) ?_
            show Go p.tables e below P (s₁.setTop (mkF m 43 #[.val (.int cv)] [(.int (1 : Int32))]))
            refine Go.s (fun k => XS.goto X0.here hx rfl (pc0 := 43) (pc' := 47) rfl (hb hby own_d1_43) (by decide) (by decide) k) ?_
            show Go p.tables e below P (s₁.setTop (mkF m 47 #[.val (.int cv)] [(.int (1 : Int32))]))
            exact Go.retZ X0 hx hlk hret (by decide) (hb hby own_d1_47) (fun U hU hF => hP U _ _ (by rw [hU, e0]; exact ⟨congrArg some (congrArg Value.int (Eq.symm (by rw [own_f1]; rw [if_neg hc3]; rw [if_pos hc9]; rw [if_pos hc15]; rw [if_neg hc27]; rw [if_neg hc33]))), N0, rfl⟩) ⟨hF.1, hF.2.1, hF.2.2.mono (by decide) (by decide)⟩)
      · skip
        refine Go.s (fun k => XS.icmpNo X0.here hx rfl (hb hby own_d1_15) rfl (XT.ii_lt_f hc15) k) ?_
        show Go p.tables e below P (s₁.setTop (mkF m 18 #[.val (.int cv)] []))
        refine Go.s (fun k => XS.iloadN X0.here hx rfl (hb hby own_d1_18) rfl k) ?_
        show Go p.tables e below P (s₁.setTop (mkF m 19 #[.val (.int cv)] [(.int cv)]))
        refine Go.s (fun k => XS.bipush X0.here hx rfl (hb hby own_d1_19) k) ?_
        show Go p.tables e below P (s₁.setTop (mkF m 21 #[.val (.int cv)] [(.int (90 : Int32)), (.int cv)]))
        by_cases hc21 : (90 : Int32) < cv
        · skip
          refine Go.s (fun k => XS.icmpNo X0.here hx rfl (hb hby own_d1_21) rfl (XT.ii_le_f hc21) k) ?_
          show Go p.tables e below P (s₁.setTop (mkF m 24 #[.val (.int cv)] []))
          refine Go.s (fun k => XS.iloadN X0.here hx rfl (hb hby own_d1_24) rfl k) ?_
          show Go p.tables e below P (s₁.setTop (mkF m 25 #[.val (.int cv)] [(.int cv)]))
          refine Go.s (fun k => XS.bipush X0.here hx rfl (hb hby own_d1_25) k) ?_
          show Go p.tables e below P (s₁.setTop (mkF m 27 #[.val (.int cv)] [(.int (48 : Int32)), (.int cv)]))
          by_cases hc27 : cv < (48 : Int32)
          · skip
            refine Go.s (fun k => XS.icmpYes X0.here hx rfl (pc0 := 27) (pc' := 36) rfl (hb hby own_d1_27) rfl (XT.ii_lt_t hc27) (by decide) (by decide) k) ?_
            show Go p.tables e below P (s₁.setTop (mkF m 36 #[.val (.int cv)] []))
            refine Go.s (fun k => XS.iloadN X0.here hx rfl (hb hby own_d1_36) rfl k) ?_
            show Go p.tables e below P (s₁.setTop (mkF m 37 #[.val (.int cv)] [(.int cv)]))
            refine Go.s (fun k => XS.bipush X0.here hx rfl (hb hby own_d1_37) k) ?_
            show Go p.tables e below P (s₁.setTop (mkF m 39 #[.val (.int cv)] [(.int (95 : Int32)), (.int cv)]))
            by_cases hc39 : cv = (95 : Int32)
            · skip
              refine Go.s (fun k => XS.icmpNo X0.here hx rfl (hb hby own_d1_39) rfl (XT.ii_ne_f hc39) k) ?_
              show Go p.tables e below P (s₁.setTop (mkF m 42 #[.val (.int cv)] []))
              refine Go.s (fun k => XS.iconst X0.here hx rfl (hb hby own_d1_42) k) ?_
              show Go p.tables e below P (s₁.setTop (mkF m 43 #[.val (.int cv)] [(.int (1 : Int32))]))
              refine Go.s (fun k => XS.goto X0.here hx rfl (pc0 := 43) (pc' := 47) rfl (hb hby own_d1_43) (by decide) (by decide) k) ?_
              show Go p.tables e below P (s₁.setTop (mkF m 47 #[.val (.int cv)] [(.int (1 : Int32))]))
              exact Go.retZ X0 hx hlk hret (by decide) (hb hby own_d1_47) (fun U hU hF => hP U _ _ (by rw [hU, e0]; exact ⟨congrArg some (congrArg Value.int (Eq.symm (by rw [own_f1]; rw [if_neg hc3]; rw [if_pos hc9]; rw [if_neg hc15]; rw [if_pos hc21]; rw [if_pos hc27]; rw [if_pos hc39]))), N0, rfl⟩) ⟨hF.1, hF.2.1, hF.2.2.mono (by decide) (by decide)⟩)
            · skip
              refine Go.s (fun k => XS.icmpYes X0.here hx rfl (pc0 := 39) (pc' := 46) rfl (hb hby own_d1_39) rfl (XT.ii_ne_t hc39) (by decide) (by decide) k) ?_
              show Go p.tables e below P (s₁.setTop (mkF m 46 #[.val (.int cv)] []))
              refine Go.s (fun k => XS.iconst X0.here hx rfl (hb hby own_d1_46) k) ?_
              show Go p.tables e below P (s₁.setTop (mkF m 47 #[.val (.int cv)] [(.int (0 : Int32))]))
              exact Go.retZ X0 hx hlk hret (by decide) (hb hby own_d1_47) (fun U hU hF => hP U _ _ (by rw [hU, e0]; exact ⟨congrArg some (congrArg Value.int (Eq.symm (by rw [own_f1]; rw [if_neg hc3]; rw [if_pos hc9]; rw [if_neg hc15]; rw [if_pos hc21]; rw [if_pos hc27]; rw [if_neg hc39]))), N0, rfl⟩) ⟨hF.1, hF.2.1, hF.2.2.mono (by decide) (by decide)⟩)
          · skip
            refine Go.s (fun k => XS.icmpNo X0.here hx rfl (hb hby own_d1_27) rfl (XT.ii_lt_f hc27) k) ?_
            show Go p.tables e below P (s₁.setTop (mkF m 30 #[.val (.int cv)] []))
            refine Go.s (fun k => XS.iloadN X0.here hx rfl (hb hby own_d1_30) rfl k) ?_
            show Go p.tables e below P (s₁.setTop (mkF m 31 #[.val (.int cv)] [(.int cv)]))
            refine Go.s (fun k => XS.bipush X0.here hx rfl (hb hby own_d1_31) k) ?_
            show Go p.tables e below P (s₁.setTop (mkF m 33 #[.val (.int cv)] [(.int (57 : Int32)), (.int cv)]))
            by_cases hc33 : (57 : Int32) < cv
            · skip
              refine Go.s (fun k => XS.icmpNo X0.here hx rfl (hb hby own_d1_33) rfl (XT.ii_le_f hc33) k) ?_
              show Go p.tables e below P (s₁.setTop (mkF m 36 #[.val (.int cv)] []))
              refine Go.s (fun k => XS.iloadN X0.here hx rfl (hb hby own_d1_36) rfl k) ?_
              show Go p.tables e below P (s₁.setTop (mkF m 37 #[.val (.int cv)] [(.int cv)]))
              refine Go.s (fun k => XS.bipush X0.here hx rfl (hb hby own_d1_37) k) ?_
              show Go p.tables e below P (s₁.setTop (mkF m 39 #[.val (.int cv)] [(.int (95 : Int32)), (.int cv)]))
              by_cases hc39 : cv = (95 : Int32)
              · skip
                refine Go.s (fun k => XS.icmpNo X0.here hx rfl (hb hby own_d1_39) rfl (XT.ii_ne_f hc39) k) ?_
                show Go p.tables e below P (s₁.setTop (mkF m 42 #[.val (.int cv)] []))
                refine Go.s (fun k => XS.iconst X0.here hx rfl (hb hby own_d1_42) k) ?_
                show Go p.tables e below P (s₁.setTop (mkF m 43 #[.val (.int cv)] [(.int (1 : Int32))]))
                refine Go.s (fun k => XS.goto X0.here hx rfl (pc0 := 43) (pc' := 47) rfl (hb hby own_d1_43) (by decide) (by decide) k) ?_
                show Go p.tables e below P (s₁.setTop (mkF m 47 #[.val (.int cv)] [(.int (1 : Int32))]))
                exact Go.retZ X0 hx hlk hret (by decide) (hb hby own_d1_47) (fun U hU hF => hP U _ _ (by rw [hU, e0]; exact ⟨congrArg some (congrArg Value.int (Eq.symm (by rw [own_f1]; rw [if_neg hc3]; rw [if_pos hc9]; rw [if_neg hc15]; rw [if_pos hc21]; rw [if_neg hc27]; rw [if_pos hc33]; rw [if_pos hc39]))), N0, rfl⟩) ⟨hF.1, hF.2.1, hF.2.2.mono (by decide) (by decide)⟩)
              · skip
                refine Go.s (fun k => XS.icmpYes X0.here hx rfl (pc0 := 39) (pc' := 46) rfl (hb hby own_d1_39) rfl (XT.ii_ne_t hc39) (by decide) (by decide) k) ?_
                show Go p.tables e below P (s₁.setTop (mkF m 46 #[.val (.int cv)] []))
                refine Go.s (fun k => XS.iconst X0.here hx rfl (hb hby own_d1_46) k) ?_
                show Go p.tables e below P (s₁.setTop (mkF m 47 #[.val (.int cv)] [(.int (0 : Int32))]))
                exact Go.retZ X0 hx hlk hret (by decide) (hb hby own_d1_47) (fun U hU hF => hP U _ _ (by rw [hU, e0]; exact ⟨congrArg some (congrArg Value.int (Eq.symm (by rw [own_f1]; rw [if_neg hc3]; rw [if_pos hc9]; rw [if_neg hc15]; rw [if_pos hc21]; rw [if_neg hc27]; rw [if_pos hc33]; rw [if_neg hc39]))), N0, rfl⟩) ⟨hF.1, hF.2.1, hF.2.2.mono (by decide) (by decide)⟩)
            · skip
              refine Go.s (fun k => XS.icmpYes X0.here hx rfl (pc0 := 33) (pc' := 42) rfl (hb hby own_d1_33) rfl (XT.ii_le_t hc33) (by decide) (by decide) k) ?_
              show Go p.tables e below P (s₁.setTop (mkF m 42 #[.val (.int cv)] []))
              refine Go.s (fun k => XS.iconst X0.here hx rfl (hb hby own_d1_42) k) ?_
              show Go p.tables e below P (s₁.setTop (mkF m 43 #[.val (.int cv)] [(.int (1 : Int32))]))
              refine Go.s (fun k => XS.goto X0.here hx rfl (pc0 := 43) (pc' := 47) rfl (hb hby own_d1_43) (by decide) (by decide) k) ?_
              show Go p.tables e below P (s₁.setTop (mkF m 47 #[.val (.int cv)] [(.int (1 : Int32))]))
              exact Go.retZ X0 hx hlk hret (by decide) (hb hby own_d1_47) (fun U hU hF => hP U _ _ (by rw [hU, e0]; exact ⟨congrArg some (congrArg Value.int (Eq.symm (by rw [own_f1]; rw [if_neg hc3]; rw [if_pos hc9]; rw [if_neg hc15]; rw [if_pos hc21]; rw [if_neg hc27]; rw [if_neg hc33]))), N0, rfl⟩) ⟨hF.1, hF.2.1, hF.2.2.mono (by decide) (by decide)⟩)
        · skip
          refine Go.s (fun k => XS.icmpYes X0.here hx rfl (pc0 := 21) (pc' := 42) rfl (hb hby own_d1_21) rfl (XT.ii_le_t hc21) (by decide) (by decide) k) ?_
          show Go p.tables e below P (s₁.setTop (mkF m 42 #[.val (.int cv)] []))
          refine Go.s (fun k => XS.iconst X0.here hx rfl (hb hby own_d1_42) k) ?_
          show Go p.tables e below P (s₁.setTop (mkF m 43 #[.val (.int cv)] [(.int (1 : Int32))]))
          refine Go.s (fun k => XS.goto X0.here hx rfl (pc0 := 43) (pc' := 47) rfl (hb hby own_d1_43) (by decide) (by decide) k) ?_
          show Go p.tables e below P (s₁.setTop (mkF m 47 #[.val (.int cv)] [(.int (1 : Int32))]))
          exact Go.retZ X0 hx hlk hret (by decide) (hb hby own_d1_47) (fun U hU hF => hP U _ _ (by rw [hU, e0]; exact ⟨congrArg some (congrArg Value.int (Eq.symm (by rw [own_f1]; rw [if_neg hc3]; rw [if_pos hc9]; rw [if_neg hc15]; rw [if_neg hc21]))), N0, rfl⟩) ⟨hF.1, hF.2.1, hF.2.2.mono (by decide) (by decide)⟩)
    · skip
      refine Go.s (fun k => XS.icmpYes X0.here hx rfl (pc0 := 9) (pc' := 42) rfl (hb hby own_d1_9) rfl (XT.ii_le_t hc9) (by decide) (by decide) k) ?_
      show Go p.tables e below P (s₁.setTop (mkF m 42 #[.val (.int cv)] []))
      refine Go.s (fun k => XS.iconst X0.here hx rfl (hb hby own_d1_42) k) ?_
      show Go p.tables e below P (s₁.setTop (mkF m 43 #[.val (.int cv)] [(.int (1 : Int32))]))
      refine Go.s (fun k => XS.goto X0.here hx rfl (pc0 := 43) (pc' := 47) rfl (hb hby own_d1_43) (by decide) (by decide) k) ?_
      show Go p.tables e below P (s₁.setTop (mkF m 47 #[.val (.int cv)] [(.int (1 : Int32))]))
      exact Go.retZ X0 hx hlk hret (by decide) (hb hby own_d1_47) (fun U hU hF => hP U _ _ (by rw [hU, e0]; exact ⟨congrArg some (congrArg Value.int (Eq.symm (by rw [own_f1]; rw [if_neg hc3]; rw [if_neg hc9]))), N0, rfl⟩) ⟨hF.1, hF.2.1, hF.2.2.mono (by decide) (by decide)⟩)
def own_f2 (cv : Int32) : Int32 := (if ((cv ||| (32 : Int32)).toInt64 - (97 : Int64)) < (0 : Int64) then (if (cv.toInt64 - (48 : Int64)) < (0 : Int64) then (if cv = (95 : Int32) then (1 : Int32) else (0 : Int32)) else (if (cv.toInt64 - (48 : Int64)) < (10 : Int64) then (if cv = (95 : Int32) then (1 : Int32) else (1 : Int32)) else (if cv = (95 : Int32) then (1 : Int32) else (0 : Int32)))) else (if ((cv ||| (32 : Int32)).toInt64 - (97 : Int64)) < (26 : Int64) then (if (cv.toInt64 - (48 : Int64)) < (0 : Int64) then (if cv = (95 : Int32) then (1 : Int32) else (1 : Int32)) else (if (cv.toInt64 - (48 : Int64)) < (10 : Int64) then (if cv = (95 : Int32) then (1 : Int32) else (1 : Int32)) else (if cv = (95 : Int32) then (1 : Int32) else (1 : Int32)))) else (if (cv.toInt64 - (48 : Int64)) < (0 : Int64) then (if cv = (95 : Int32) then (1 : Int32) else (0 : Int32)) else (if (cv.toInt64 - (48 : Int64)) < (10 : Int64) then (if cv = (95 : Int32) then (1 : Int32) else (1 : Int32)) else (if cv = (95 : Int32) then (1 : Int32) else (0 : Int32))))))
theorem own_ef2 (m : MethodId) (cv : Int32) : entryFrame m #[(.int cv)] 8 = mkF m 0 #[.val (.int cv), .unset, .unset, .unset, .unset, .unset, .unset, .unset] [] := by
  (first | (simp [entryFrame, mkF, argsToLocals, Value.category]; done) | rfl)
theorem own_pn_1 : plainName "com/example/impart/impart/NamesIsStartPinLaw" = true := by first | (simp [plainName, overriddenIn]; done) | decide +kernel
theorem own_d2_0 : decode method_2_code 0 = .ok (.iload_n 0, 1) := by decide +kernel
theorem own_d2_1 : decode method_2_code 1 = .ok (.bipush 32, 2) := by decide +kernel
theorem own_d2_3 : decode method_2_code 3 = .ok (.ior, 1) := by decide +kernel
theorem own_d2_4 : decode method_2_code 4 = .ok (.i2l, 1) := by decide +kernel
theorem own_d2_5 : decode method_2_code 5 = .ok (.ldc2_w 7, 3) := by decide +kernel
theorem own_d2_8 : decode method_2_code 8 = .ok (.lsub, 1) := by decide +kernel
theorem own_d2_9 : decode method_2_code 9 = .ok (.lstore_n 1, 1) := by decide +kernel
theorem own_d2_10 : decode method_2_code 10 = .ok (.lload_n 1, 1) := by decide +kernel
theorem own_d2_11 : decode method_2_code 11 = .ok (.lconst 0, 1) := by decide +kernel
theorem own_d2_12 : decode method_2_code 12 = .ok (.lcmp, 1) := by decide +kernel
theorem own_d2_13 : decode method_2_code 13 = .ok (.ifCond .lt 15, 3) := by decide +kernel
theorem own_d2_28 : decode method_2_code 28 = .ok (.iconst 0, 1) := by decide +kernel
theorem own_d2_29 : decode method_2_code 29 = .ok (.istore_n 3, 1) := by decide +kernel
theorem own_d2_30 : decode method_2_code 30 = .ok (.iload_n 0, 1) := by decide +kernel
theorem own_d2_31 : decode method_2_code 31 = .ok (.i2l, 1) := by decide +kernel
theorem own_d2_32 : decode method_2_code 32 = .ok (.ldc2_w 11, 3) := by decide +kernel
theorem own_d2_35 : decode method_2_code 35 = .ok (.lsub, 1) := by decide +kernel
theorem own_d2_36 : decode method_2_code 36 = .ok (.lstore 4, 2) := by decide +kernel
theorem own_d2_38 : decode method_2_code 38 = .ok (.lload 4, 2) := by decide +kernel
theorem own_d2_40 : decode method_2_code 40 = .ok (.lconst 0, 1) := by decide +kernel
theorem own_d2_41 : decode method_2_code 41 = .ok (.lcmp, 1) := by decide +kernel
theorem own_d2_42 : decode method_2_code 42 = .ok (.ifCond .lt 16, 3) := by decide +kernel
theorem own_d2_58 : decode method_2_code 58 = .ok (.iconst 0, 1) := by decide +kernel
theorem own_d2_59 : decode method_2_code 59 = .ok (.istore 6, 2) := by decide +kernel
theorem own_d2_61 : decode method_2_code 61 = .ok (.iload_n 0, 1) := by decide +kernel
theorem own_d2_62 : decode method_2_code 62 = .ok (.bipush 95, 2) := by decide +kernel
theorem own_d2_64 : decode method_2_code 64 = .ok (.if_icmp .ne 7, 3) := by decide +kernel
theorem own_d2_67 : decode method_2_code 67 = .ok (.iconst 1, 1) := by decide +kernel
theorem own_d2_68 : decode method_2_code 68 = .ok (.goto 4, 3) := by decide +kernel
theorem own_d2_72 : decode method_2_code 72 = .ok (.istore 7, 2) := by decide +kernel
theorem own_d2_74 : decode method_2_code 74 = .ok (.iload_n 3, 1) := by decide +kernel
theorem own_d2_75 : decode method_2_code 75 = .ok (.ifCond .ne 13, 3) := by decide +kernel
theorem own_d2_78 : decode method_2_code 78 = .ok (.iload 6, 2) := by decide +kernel
theorem own_d2_80 : decode method_2_code 80 = .ok (.ifCond .ne 8, 3) := by decide +kernel
theorem own_d2_83 : decode method_2_code 83 = .ok (.iload 7, 2) := by decide +kernel
theorem own_d2_85 : decode method_2_code 85 = .ok (.ifCond .eq 7, 3) := by decide +kernel
theorem own_d2_88 : decode method_2_code 88 = .ok (.iconst 1, 1) := by decide +kernel
theorem own_d2_89 : decode method_2_code 89 = .ok (.goto 4, 3) := by decide +kernel
theorem own_d2_93 : decode method_2_code 93 = .ok (.ireturn, 1) := by decide +kernel
theorem own_d2_71 : decode method_2_code 71 = .ok (.iconst 0, 1) := by decide +kernel
theorem own_d2_92 : decode method_2_code 92 = .ok (.iconst 0, 1) := by decide +kernel
theorem own_d2_45 : decode method_2_code 45 = .ok (.lload 4, 2) := by decide +kernel
theorem own_d2_47 : decode method_2_code 47 = .ok (.ldc2_w 13, 3) := by decide +kernel
theorem own_d2_50 : decode method_2_code 50 = .ok (.lcmp, 1) := by decide +kernel
theorem own_d2_51 : decode method_2_code 51 = .ok (.ifCond .ge 7, 3) := by decide +kernel
theorem own_d2_54 : decode method_2_code 54 = .ok (.iconst 1, 1) := by decide +kernel
theorem own_d2_55 : decode method_2_code 55 = .ok (.goto 4, 3) := by decide +kernel
theorem own_d2_16 : decode method_2_code 16 = .ok (.lload_n 1, 1) := by decide +kernel
theorem own_d2_17 : decode method_2_code 17 = .ok (.ldc2_w 9, 3) := by decide +kernel
theorem own_d2_20 : decode method_2_code 20 = .ok (.lcmp, 1) := by decide +kernel
theorem own_d2_21 : decode method_2_code 21 = .ok (.ifCond .ge 7, 3) := by decide +kernel
theorem own_d2_24 : decode method_2_code 24 = .ok (.iconst 1, 1) := by decide +kernel
theorem own_d2_25 : decode method_2_code 25 = .ok (.goto 4, 3) := by decide +kernel
set_option maxRecDepth 65536 in
set_option maxHeartbeats 40000000 in
theorem own_rm2 (l : Launch) (Z : State) (a0 : Array Value) (hw : ∀ d ∈ tables_1, d.before a0 Z = true) (ws : List Jvm.Cond) (cv : Int32) (h0 : Heap) (n0 : Nat) (Z0 : n0 ≤ h0.size)   :
    Con l Z (⟨"com/example/impart/impart/NamesIsStartPinLaw", "ref", "(I)Z"⟩ : MethodName) method_2_code 8 (some .boolean) ws ({ frames := 0, cells := 0, slots := 0, locals := 0 } : Room) #[(.int cv)] h0 (fun v h L => v = some (.int (own_f2 cv)) ∧ Fr n0 L ∧ h = h0) := by
  refine Con.intro (plainFor_of_name own_pn_1) ?_
  intro p e s m below meth c s₁ P hx hby hml hown hnm hret hlk hZ X0 e0 hP
  have N0 := Fr.nil n0
  have hown : s.vm.findClass "com/example/impart/impart/NamesIsStartPinLaw" = some m.cls := hown
  refine Go.cast (own_ef2 m cv) ?_
  show Go p.tables e below P (s₁.setTop (mkF m 0 #[.val (.int cv), .unset, .unset, .unset, .unset, .unset, .unset, .unset] []))
  refine Go.s (fun k => XS.iloadN X0.here hx rfl (hb hby own_d2_0) rfl k) ?_
  show Go p.tables e below P (s₁.setTop (mkF m 1 #[.val (.int cv), .unset, .unset, .unset, .unset, .unset, .unset, .unset] [(.int cv)]))
  refine Go.s (fun k => XS.bipush X0.here hx rfl (hb hby own_d2_1) k) ?_
  show Go p.tables e below P (s₁.setTop (mkF m 3 #[.val (.int cv), .unset, .unset, .unset, .unset, .unset, .unset, .unset] [(.int (32 : Int32)), (.int cv)]))
  refine Go.s (fun k => XT.ior X0.here hx rfl (hb hby own_d2_3) rfl k) ?_
  show Go p.tables e below P (s₁.setTop (mkF m 4 #[.val (.int cv), .unset, .unset, .unset, .unset, .unset, .unset, .unset] [(.int (cv ||| (32 : Int32)))]))
  refine Go.s (fun k => XT.i2l X0.here hx rfl (hb hby own_d2_4) rfl k) ?_
  show Go p.tables e below P (s₁.setTop (mkF m 5 #[.val (.int cv), .unset, .unset, .unset, .unset, .unset, .unset, .unset] [(.long (cv ||| (32 : Int32)).toInt64)]))
  refine Go.s (fun k => X0.ldc2J hx hown (mvT hZ (hw _ (List.mem_of_getElem? (i := 10) rfl))) rfl (hb hby own_d2_5) k) ?_
  show Go p.tables e below P (s₁.setTop (mkF m 8 #[.val (.int cv), .unset, .unset, .unset, .unset, .unset, .unset, .unset] [(.long (97 : Int64)), (.long (cv ||| (32 : Int32)).toInt64)]))
  refine Go.s (fun k => XT.lsub X0.here hx rfl (hb hby own_d2_8) rfl k) ?_
  show Go p.tables e below P (s₁.setTop (mkF m 9 #[.val (.int cv), .unset, .unset, .unset, .unset, .unset, .unset, .unset] [(.long ((cv ||| (32 : Int32)).toInt64 - (97 : Int64)))]))
  refine Go.s (fun k => XT.lstoreN X0.here hx rfl (hb hby own_d2_9) rfl (l' := #[.val (.int cv), .val (.long ((cv ||| (32 : Int32)).toInt64 - (97 : Int64))), .second, .unset, .unset, .unset, .unset, .unset]) rfl k) ?_
  show Go p.tables e below P (s₁.setTop (mkF m 10 #[.val (.int cv), .val (.long ((cv ||| (32 : Int32)).toInt64 - (97 : Int64))), .second, .unset, .unset, .unset, .unset, .unset] []))
  refine Go.s (fun k => XT.lloadN X0.here hx rfl (hb hby own_d2_10) rfl k) ?_
  show Go p.tables e below P (s₁.setTop (mkF m 11 #[.val (.int cv), .val (.long ((cv ||| (32 : Int32)).toInt64 - (97 : Int64))), .second, .unset, .unset, .unset, .unset, .unset] [(.long ((cv ||| (32 : Int32)).toInt64 - (97 : Int64)))]))
  refine Go.s (fun k => XT.lconst X0.here hx rfl (hb hby own_d2_11) k) ?_
  show Go p.tables e below P (s₁.setTop (mkF m 12 #[.val (.int cv), .val (.long ((cv ||| (32 : Int32)).toInt64 - (97 : Int64))), .second, .unset, .unset, .unset, .unset, .unset] [(.long (0 : Int64)), (.long ((cv ||| (32 : Int32)).toInt64 - (97 : Int64)))]))
  refine Go.s (fun k => XT.lcmp X0.here hx rfl (hb hby own_d2_12) rfl k) ?_
  show Go p.tables e below P (s₁.setTop (mkF m 13 #[.val (.int cv), .val (.long ((cv ||| (32 : Int32)).toInt64 - (97 : Int64))), .second, .unset, .unset, .unset, .unset, .unset] [(.int (XT.cmpL ((cv ||| (32 : Int32)).toInt64 - (97 : Int64)) (0 : Int64)))]))
  by_cases hc13 : ((cv ||| (32 : Int32)).toInt64 - (97 : Int64)) < (0 : Int64)
  · skip
    refine Go.s (fun k => XS.ifYes X0.here hx rfl (pc0 := 13) (pc' := 28) rfl (hb hby own_d2_13) rfl (XT.ll_lt_t hc13) (by decide) (by decide) k) ?_
    show Go p.tables e below P (s₁.setTop (mkF m 28 #[.val (.int cv), .val (.long ((cv ||| (32 : Int32)).toInt64 - (97 : Int64))), .second, .unset, .unset, .unset, .unset, .unset] []))
    refine Go.s (fun k => XS.iconst X0.here hx rfl (hb hby own_d2_28) k) ?_
    show Go p.tables e below P (s₁.setTop (mkF m 29 #[.val (.int cv), .val (.long ((cv ||| (32 : Int32)).toInt64 - (97 : Int64))), .second, .unset, .unset, .unset, .unset, .unset] [(.int (0 : Int32))]))
    refine Go.s (fun k => XS.istoreN X0.here hx rfl (hb hby own_d2_29) rfl (l' := #[.val (.int cv), .val (.long ((cv ||| (32 : Int32)).toInt64 - (97 : Int64))), .second, .val (.int (0 : Int32)), .unset, .unset, .unset, .unset]) rfl k) ?_
    show Go p.tables e below P (s₁.setTop (mkF m 30 #[.val (.int cv), .val (.long ((cv ||| (32 : Int32)).toInt64 - (97 : Int64))), .second, .val (.int (0 : Int32)), .unset, .unset, .unset, .unset] []))
    refine Go.s (fun k => XS.iloadN X0.here hx rfl (hb hby own_d2_30) rfl k) ?_
    show Go p.tables e below P (s₁.setTop (mkF m 31 #[.val (.int cv), .val (.long ((cv ||| (32 : Int32)).toInt64 - (97 : Int64))), .second, .val (.int (0 : Int32)), .unset, .unset, .unset, .unset] [(.int cv)]))
    refine Go.s (fun k => XT.i2l X0.here hx rfl (hb hby own_d2_31) rfl k) ?_
    show Go p.tables e below P (s₁.setTop (mkF m 32 #[.val (.int cv), .val (.long ((cv ||| (32 : Int32)).toInt64 - (97 : Int64))), .second, .val (.int (0 : Int32)), .unset, .unset, .unset, .unset] [(.long cv.toInt64)]))
    refine Go.s (fun k => X0.ldc2J hx hown (mvT hZ (hw _ (List.mem_of_getElem? (i := 11) rfl))) rfl (hb hby own_d2_32) k) ?_
    show Go p.tables e below P (s₁.setTop (mkF m 35 #[.val (.int cv), .val (.long ((cv ||| (32 : Int32)).toInt64 - (97 : Int64))), .second, .val (.int (0 : Int32)), .unset, .unset, .unset, .unset] [(.long (48 : Int64)), (.long cv.toInt64)]))
    refine Go.s (fun k => XT.lsub X0.here hx rfl (hb hby own_d2_35) rfl k) ?_
    show Go p.tables e below P (s₁.setTop (mkF m 36 #[.val (.int cv), .val (.long ((cv ||| (32 : Int32)).toInt64 - (97 : Int64))), .second, .val (.int (0 : Int32)), .unset, .unset, .unset, .unset] [(.long (cv.toInt64 - (48 : Int64)))]))
    refine Go.s (fun k => XT.lstore X0.here hx rfl (hb hby own_d2_36) rfl (l' := #[.val (.int cv), .val (.long ((cv ||| (32 : Int32)).toInt64 - (97 : Int64))), .second, .val (.int (0 : Int32)), .val (.long (cv.toInt64 - (48 : Int64))), .second, .unset, .unset]) rfl k) ?_
    show Go p.tables e below P (s₁.setTop (mkF m 38 #[.val (.int cv), .val (.long ((cv ||| (32 : Int32)).toInt64 - (97 : Int64))), .second, .val (.int (0 : Int32)), .val (.long (cv.toInt64 - (48 : Int64))), .second, .unset, .unset] []))
    refine Go.s (fun k => XT.lload X0.here hx rfl (hb hby own_d2_38) rfl k) ?_
    show Go p.tables e below P (s₁.setTop (mkF m 40 #[.val (.int cv), .val (.long ((cv ||| (32 : Int32)).toInt64 - (97 : Int64))), .second, .val (.int (0 : Int32)), .val (.long (cv.toInt64 - (48 : Int64))), .second, .unset, .unset] [(.long (cv.toInt64 - (48 : Int64)))]))
    refine Go.s (fun k => XT.lconst X0.here hx rfl (hb hby own_d2_40) k) ?_
    show Go p.tables e below P (s₁.setTop (mkF m 41 #[.val (.int cv), .val (.long ((cv ||| (32 : Int32)).toInt64 - (97 : Int64))), .second, .val (.int (0 : Int32)), .val (.long (cv.toInt64 - (48 : Int64))), .second, .unset, .unset] [(.long (0 : Int64)), (.long (cv.toInt64 - (48 : Int64)))]))
    refine Go.s (fun k => XT.lcmp X0.here hx rfl (hb hby own_d2_41) rfl k) ?_
    show Go p.tables e below P (s₁.setTop (mkF m 42 #[.val (.int cv), .val (.long ((cv ||| (32 : Int32)).toInt64 - (97 : Int64))), .second, .val (.int (0 : Int32)), .val (.long (cv.toInt64 - (48 : Int64))), .second, .unset, .unset] [(.int (XT.cmpL (cv.toInt64 - (48 : Int64)) (0 : Int64)))]))
    by_cases hc42 : (cv.toInt64 - (48 : Int64)) < (0 : Int64)
    · skip
      refine Go.s (fun k => XS.ifYes X0.here hx rfl (pc0 := 42) (pc' := 58) rfl (hb hby own_d2_42) rfl (XT.ll_lt_t hc42) (by decide) (by decide) k) ?_
      show Go p.tables e below P (s₁.setTop (mkF m 58 #[.val (.int cv), .val (.long ((cv ||| (32 : Int32)).toInt64 - (97 : Int64))), .second, .val (.int (0 : Int32)), .val (.long (cv.toInt64 - (48 : Int64))), .second, .unset, .unset] []))
      refine Go.s (fun k => XS.iconst X0.here hx rfl (hb hby own_d2_58) k) ?_
      show Go p.tables e below P (s₁.setTop (mkF m 59 #[.val (.int cv), .val (.long ((cv ||| (32 : Int32)).toInt64 - (97 : Int64))), .second, .val (.int (0 : Int32)), .val (.long (cv.toInt64 - (48 : Int64))), .second, .unset, .unset] [(.int (0 : Int32))]))
      refine Go.s (fun k => XS.istore X0.here hx rfl (hb hby own_d2_59) rfl (l' := #[.val (.int cv), .val (.long ((cv ||| (32 : Int32)).toInt64 - (97 : Int64))), .second, .val (.int (0 : Int32)), .val (.long (cv.toInt64 - (48 : Int64))), .second, .val (.int (0 : Int32)), .unset]) rfl k) ?_
      show Go p.tables e below P (s₁.setTop (mkF m 61 #[.val (.int cv), .val (.long ((cv ||| (32 : Int32)).toInt64 - (97 : Int64))), .second, .val (.int (0 : Int32)), .val (.long (cv.toInt64 - (48 : Int64))), .second, .val (.int (0 : Int32)), .unset] []))
      refine Go.s (fun k => XS.iloadN X0.here hx rfl (hb hby own_d2_61) rfl k) ?_
      show Go p.tables e below P (s₁.setTop (mkF m 62 #[.val (.int cv), .val (.long ((cv ||| (32 : Int32)).toInt64 - (97 : Int64))), .second, .val (.int (0 : Int32)), .val (.long (cv.toInt64 - (48 : Int64))), .second, .val (.int (0 : Int32)), .unset] [(.int cv)]))
      refine Go.s (fun k => XS.bipush X0.here hx rfl (hb hby own_d2_62) k) ?_
      show Go p.tables e below P (s₁.setTop (mkF m 64 #[.val (.int cv), .val (.long ((cv ||| (32 : Int32)).toInt64 - (97 : Int64))), .second, .val (.int (0 : Int32)), .val (.long (cv.toInt64 - (48 : Int64))), .second, .val (.int (0 : Int32)), .unset] [(.int (95 : Int32)), (.int cv)]))
      by_cases hc64 : cv = (95 : Int32)
      · skip
        refine Go.s (fun k => XS.icmpNo X0.here hx rfl (hb hby own_d2_64) rfl (XT.ii_ne_f hc64) k) ?_
        show Go p.tables e below P (s₁.setTop (mkF m 67 #[.val (.int cv), .val (.long ((cv ||| (32 : Int32)).toInt64 - (97 : Int64))), .second, .val (.int (0 : Int32)), .val (.long (cv.toInt64 - (48 : Int64))), .second, .val (.int (0 : Int32)), .unset] []))
        refine Go.s (fun k => XS.iconst X0.here hx rfl (hb hby own_d2_67) k) ?_
        show Go p.tables e below P (s₁.setTop (mkF m 68 #[.val (.int cv), .val (.long ((cv ||| (32 : Int32)).toInt64 - (97 : Int64))), .second, .val (.int (0 : Int32)), .val (.long (cv.toInt64 - (48 : Int64))), .second, .val (.int (0 : Int32)), .unset] [(.int (1 : Int32))]))
        refine Go.s (fun k => XS.goto X0.here hx rfl (pc0 := 68) (pc' := 72) rfl (hb hby own_d2_68) (by decide) (by decide) k) ?_
        show Go p.tables e below P (s₁.setTop (mkF m 72 #[.val (.int cv), .val (.long ((cv ||| (32 : Int32)).toInt64 - (97 : Int64))), .second, .val (.int (0 : Int32)), .val (.long (cv.toInt64 - (48 : Int64))), .second, .val (.int (0 : Int32)), .unset] [(.int (1 : Int32))]))
        refine Go.s (fun k => XS.istore X0.here hx rfl (hb hby own_d2_72) rfl (l' := #[.val (.int cv), .val (.long ((cv ||| (32 : Int32)).toInt64 - (97 : Int64))), .second, .val (.int (0 : Int32)), .val (.long (cv.toInt64 - (48 : Int64))), .second, .val (.int (0 : Int32)), .val (.int (1 : Int32))]) rfl k) ?_
        show Go p.tables e below P (s₁.setTop (mkF m 74 #[.val (.int cv), .val (.long ((cv ||| (32 : Int32)).toInt64 - (97 : Int64))), .second, .val (.int (0 : Int32)), .val (.long (cv.toInt64 - (48 : Int64))), .second, .val (.int (0 : Int32)), .val (.int (1 : Int32))] []))
        refine Go.s (fun k => XS.iloadN X0.here hx rfl (hb hby own_d2_74) rfl k) ?_
        show Go p.tables e below P (s₁.setTop (mkF m 75 #[.val (.int cv), .val (.long ((cv ||| (32 : Int32)).toInt64 - (97 : Int64))), .second, .val (.int (0 : Int32)), .val (.long (cv.toInt64 - (48 : Int64))), .second, .val (.int (0 : Int32)), .val (.int (1 : Int32))] [(.int (0 : Int32))]))
        refine Go.s (fun k => XS.ifNo X0.here hx rfl (hb hby own_d2_75) rfl (XT.i0_ne_f (by decide)) k) ?_
        show Go p.tables e below P (s₁.setTop (mkF m 78 #[.val (.int cv), .val (.long ((cv ||| (32 : Int32)).toInt64 - (97 : Int64))), .second, .val (.int (0 : Int32)), .val (.long (cv.toInt64 - (48 : Int64))), .second, .val (.int (0 : Int32)), .val (.int (1 : Int32))] []))
        refine Go.s (fun k => XS.iload X0.here hx rfl (hb hby own_d2_78) rfl k) ?_
        show Go p.tables e below P (s₁.setTop (mkF m 80 #[.val (.int cv), .val (.long ((cv ||| (32 : Int32)).toInt64 - (97 : Int64))), .second, .val (.int (0 : Int32)), .val (.long (cv.toInt64 - (48 : Int64))), .second, .val (.int (0 : Int32)), .val (.int (1 : Int32))] [(.int (0 : Int32))]))
        refine Go.s (fun k => XS.ifNo X0.here hx rfl (hb hby own_d2_80) rfl (XT.i0_ne_f (by decide)) k) ?_
        show Go p.tables e below P (s₁.setTop (mkF m 83 #[.val (.int cv), .val (.long ((cv ||| (32 : Int32)).toInt64 - (97 : Int64))), .second, .val (.int (0 : Int32)), .val (.long (cv.toInt64 - (48 : Int64))), .second, .val (.int (0 : Int32)), .val (.int (1 : Int32))] []))
        refine Go.s (fun k => XS.iload X0.here hx rfl (hb hby own_d2_83) rfl k) ?_
        show Go p.tables e below P (s₁.setTop (mkF m 85 #[.val (.int cv), .val (.long ((cv ||| (32 : Int32)).toInt64 - (97 : Int64))), .second, .val (.int (0 : Int32)), .val (.long (cv.toInt64 - (48 : Int64))), .second, .val (.int (0 : Int32)), .val (.int (1 : Int32))] [(.int (1 : Int32))]))
        refine Go.s (fun k => XS.ifNo X0.here hx rfl (hb hby own_d2_85) rfl (XT.i0_eq_f (by decide)) k) ?_
        show Go p.tables e below P (s₁.setTop (mkF m 88 #[.val (.int cv), .val (.long ((cv ||| (32 : Int32)).toInt64 - (97 : Int64))), .second, .val (.int (0 : Int32)), .val (.long (cv.toInt64 - (48 : Int64))), .second, .val (.int (0 : Int32)), .val (.int (1 : Int32))] []))
        refine Go.s (fun k => XS.iconst X0.here hx rfl (hb hby own_d2_88) k) ?_
        show Go p.tables e below P (s₁.setTop (mkF m 89 #[.val (.int cv), .val (.long ((cv ||| (32 : Int32)).toInt64 - (97 : Int64))), .second, .val (.int (0 : Int32)), .val (.long (cv.toInt64 - (48 : Int64))), .second, .val (.int (0 : Int32)), .val (.int (1 : Int32))] [(.int (1 : Int32))]))
        refine Go.s (fun k => XS.goto X0.here hx rfl (pc0 := 89) (pc' := 93) rfl (hb hby own_d2_89) (by decide) (by decide) k) ?_
        show Go p.tables e below P (s₁.setTop (mkF m 93 #[.val (.int cv), .val (.long ((cv ||| (32 : Int32)).toInt64 - (97 : Int64))), .second, .val (.int (0 : Int32)), .val (.long (cv.toInt64 - (48 : Int64))), .second, .val (.int (0 : Int32)), .val (.int (1 : Int32))] [(.int (1 : Int32))]))
        exact Go.retZ X0 hx hlk hret (by decide) (hb hby own_d2_93) (fun U hU hF => hP U _ _ (by rw [hU, e0]; exact ⟨congrArg some (congrArg Value.int (Eq.symm (by rw [own_f2]; rw [if_pos hc13]; rw [if_pos hc42]; rw [if_pos hc64]))), N0, rfl⟩) ⟨hF.1, hF.2.1, hF.2.2.mono (by decide) (by decide)⟩)
      · skip
        refine Go.s (fun k => XS.icmpYes X0.here hx rfl (pc0 := 64) (pc' := 71) rfl (hb hby own_d2_64) rfl (XT.ii_ne_t hc64) (by decide) (by decide) k) ?_
        show Go p.tables e below P (s₁.setTop (mkF m 71 #[.val (.int cv), .val (.long ((cv ||| (32 : Int32)).toInt64 - (97 : Int64))), .second, .val (.int (0 : Int32)), .val (.long (cv.toInt64 - (48 : Int64))), .second, .val (.int (0 : Int32)), .unset] []))
        refine Go.s (fun k => XS.iconst X0.here hx rfl (hb hby own_d2_71) k) ?_
        show Go p.tables e below P (s₁.setTop (mkF m 72 #[.val (.int cv), .val (.long ((cv ||| (32 : Int32)).toInt64 - (97 : Int64))), .second, .val (.int (0 : Int32)), .val (.long (cv.toInt64 - (48 : Int64))), .second, .val (.int (0 : Int32)), .unset] [(.int (0 : Int32))]))
        refine Go.s (fun k => XS.istore X0.here hx rfl (hb hby own_d2_72) rfl (l' := #[.val (.int cv), .val (.long ((cv ||| (32 : Int32)).toInt64 - (97 : Int64))), .second, .val (.int (0 : Int32)), .val (.long (cv.toInt64 - (48 : Int64))), .second, .val (.int (0 : Int32)), .val (.int (0 : Int32))]) rfl k) ?_
        show Go p.tables e below P (s₁.setTop (mkF m 74 #[.val (.int cv), .val (.long ((cv ||| (32 : Int32)).toInt64 - (97 : Int64))), .second, .val (.int (0 : Int32)), .val (.long (cv.toInt64 - (48 : Int64))), .second, .val (.int (0 : Int32)), .val (.int (0 : Int32))] []))
        refine Go.s (fun k => XS.iloadN X0.here hx rfl (hb hby own_d2_74) rfl k) ?_
        show Go p.tables e below P (s₁.setTop (mkF m 75 #[.val (.int cv), .val (.long ((cv ||| (32 : Int32)).toInt64 - (97 : Int64))), .second, .val (.int (0 : Int32)), .val (.long (cv.toInt64 - (48 : Int64))), .second, .val (.int (0 : Int32)), .val (.int (0 : Int32))] [(.int (0 : Int32))]))
        refine Go.s (fun k => XS.ifNo X0.here hx rfl (hb hby own_d2_75) rfl (XT.i0_ne_f (by decide)) k) ?_
        show Go p.tables e below P (s₁.setTop (mkF m 78 #[.val (.int cv), .val (.long ((cv ||| (32 : Int32)).toInt64 - (97 : Int64))), .second, .val (.int (0 : Int32)), .val (.long (cv.toInt64 - (48 : Int64))), .second, .val (.int (0 : Int32)), .val (.int (0 : Int32))] []))
        refine Go.s (fun k => XS.iload X0.here hx rfl (hb hby own_d2_78) rfl k) ?_
        show Go p.tables e below P (s₁.setTop (mkF m 80 #[.val (.int cv), .val (.long ((cv ||| (32 : Int32)).toInt64 - (97 : Int64))), .second, .val (.int (0 : Int32)), .val (.long (cv.toInt64 - (48 : Int64))), .second, .val (.int (0 : Int32)), .val (.int (0 : Int32))] [(.int (0 : Int32))]))
        refine Go.s (fun k => XS.ifNo X0.here hx rfl (hb hby own_d2_80) rfl (XT.i0_ne_f (by decide)) k) ?_
        show Go p.tables e below P (s₁.setTop (mkF m 83 #[.val (.int cv), .val (.long ((cv ||| (32 : Int32)).toInt64 - (97 : Int64))), .second, .val (.int (0 : Int32)), .val (.long (cv.toInt64 - (48 : Int64))), .second, .val (.int (0 : Int32)), .val (.int (0 : Int32))] []))
        refine Go.s (fun k => XS.iload X0.here hx rfl (hb hby own_d2_83) rfl k) ?_
        show Go p.tables e below P (s₁.setTop (mkF m 85 #[.val (.int cv), .val (.long ((cv ||| (32 : Int32)).toInt64 - (97 : Int64))), .second, .val (.int (0 : Int32)), .val (.long (cv.toInt64 - (48 : Int64))), .second, .val (.int (0 : Int32)), .val (.int (0 : Int32))] [(.int (0 : Int32))]))
        refine Go.s (fun k => XS.ifYes X0.here hx rfl (pc0 := 85) (pc' := 92) rfl (hb hby own_d2_85) rfl (XT.i0_eq_t (by decide)) (by decide) (by decide) k) ?_
        show Go p.tables e below P (s₁.setTop (mkF m 92 #[.val (.int cv), .val (.long ((cv ||| (32 : Int32)).toInt64 - (97 : Int64))), .second, .val (.int (0 : Int32)), .val (.long (cv.toInt64 - (48 : Int64))), .second, .val (.int (0 : Int32)), .val (.int (0 : Int32))] []))
        refine Go.s (fun k => XS.iconst X0.here hx rfl (hb hby own_d2_92) k) ?_
        show Go p.tables e below P (s₁.setTop (mkF m 93 #[.val (.int cv), .val (.long ((cv ||| (32 : Int32)).toInt64 - (97 : Int64))), .second, .val (.int (0 : Int32)), .val (.long (cv.toInt64 - (48 : Int64))), .second, .val (.int (0 : Int32)), .val (.int (0 : Int32))] [(.int (0 : Int32))]))
        exact Go.retZ X0 hx hlk hret (by decide) (hb hby own_d2_93) (fun U hU hF => hP U _ _ (by rw [hU, e0]; exact ⟨congrArg some (congrArg Value.int (Eq.symm (by rw [own_f2]; rw [if_pos hc13]; rw [if_pos hc42]; rw [if_neg hc64]))), N0, rfl⟩) ⟨hF.1, hF.2.1, hF.2.2.mono (by decide) (by decide)⟩)
    · skip
      refine Go.s (fun k => XS.ifNo X0.here hx rfl (hb hby own_d2_42) rfl (XT.ll_lt_f hc42) k) ?_
      show Go p.tables e below P (s₁.setTop (mkF m 45 #[.val (.int cv), .val (.long ((cv ||| (32 : Int32)).toInt64 - (97 : Int64))), .second, .val (.int (0 : Int32)), .val (.long (cv.toInt64 - (48 : Int64))), .second, .unset, .unset] []))
      refine Go.s (fun k => XT.lload X0.here hx rfl (hb hby own_d2_45) rfl k) ?_
      show Go p.tables e below P (s₁.setTop (mkF m 47 #[.val (.int cv), .val (.long ((cv ||| (32 : Int32)).toInt64 - (97 : Int64))), .second, .val (.int (0 : Int32)), .val (.long (cv.toInt64 - (48 : Int64))), .second, .unset, .unset] [(.long (cv.toInt64 - (48 : Int64)))]))
      refine Go.s (fun k => X0.ldc2J hx hown (mvT hZ (hw _ (List.mem_of_getElem? (i := 13) rfl))) rfl (hb hby own_d2_47) k) ?_
      show Go p.tables e below P (s₁.setTop (mkF m 50 #[.val (.int cv), .val (.long ((cv ||| (32 : Int32)).toInt64 - (97 : Int64))), .second, .val (.int (0 : Int32)), .val (.long (cv.toInt64 - (48 : Int64))), .second, .unset, .unset] [(.long (10 : Int64)), (.long (cv.toInt64 - (48 : Int64)))]))
      refine Go.s (fun k => XT.lcmp X0.here hx rfl (hb hby own_d2_50) rfl k) ?_
      show Go p.tables e below P (s₁.setTop (mkF m 51 #[.val (.int cv), .val (.long ((cv ||| (32 : Int32)).toInt64 - (97 : Int64))), .second, .val (.int (0 : Int32)), .val (.long (cv.toInt64 - (48 : Int64))), .second, .unset, .unset] [(.int (XT.cmpL (cv.toInt64 - (48 : Int64)) (10 : Int64)))]))
      by_cases hc51 : (cv.toInt64 - (48 : Int64)) < (10 : Int64)
      · skip
        refine Go.s (fun k => XS.ifNo X0.here hx rfl (hb hby own_d2_51) rfl (XT.ll_ge_f hc51) k) ?_
        show Go p.tables e below P (s₁.setTop (mkF m 54 #[.val (.int cv), .val (.long ((cv ||| (32 : Int32)).toInt64 - (97 : Int64))), .second, .val (.int (0 : Int32)), .val (.long (cv.toInt64 - (48 : Int64))), .second, .unset, .unset] []))
        refine Go.s (fun k => XS.iconst X0.here hx rfl (hb hby own_d2_54) k) ?_
        show Go p.tables e below P (s₁.setTop (mkF m 55 #[.val (.int cv), .val (.long ((cv ||| (32 : Int32)).toInt64 - (97 : Int64))), .second, .val (.int (0 : Int32)), .val (.long (cv.toInt64 - (48 : Int64))), .second, .unset, .unset] [(.int (1 : Int32))]))
        refine Go.s (fun k => XS.goto X0.here hx rfl (pc0 := 55) (pc' := 59) rfl (hb hby own_d2_55) (by decide) (by decide) k) ?_
        show Go p.tables e below P (s₁.setTop (mkF m 59 #[.val (.int cv), .val (.long ((cv ||| (32 : Int32)).toInt64 - (97 : Int64))), .second, .val (.int (0 : Int32)), .val (.long (cv.toInt64 - (48 : Int64))), .second, .unset, .unset] [(.int (1 : Int32))]))
        refine Go.s (fun k => XS.istore X0.here hx rfl (hb hby own_d2_59) rfl (l' := #[.val (.int cv), .val (.long ((cv ||| (32 : Int32)).toInt64 - (97 : Int64))), .second, .val (.int (0 : Int32)), .val (.long (cv.toInt64 - (48 : Int64))), .second, .val (.int (1 : Int32)), .unset]) rfl k) ?_
        show Go p.tables e below P (s₁.setTop (mkF m 61 #[.val (.int cv), .val (.long ((cv ||| (32 : Int32)).toInt64 - (97 : Int64))), .second, .val (.int (0 : Int32)), .val (.long (cv.toInt64 - (48 : Int64))), .second, .val (.int (1 : Int32)), .unset] []))
        refine Go.s (fun k => XS.iloadN X0.here hx rfl (hb hby own_d2_61) rfl k) ?_
        show Go p.tables e below P (s₁.setTop (mkF m 62 #[.val (.int cv), .val (.long ((cv ||| (32 : Int32)).toInt64 - (97 : Int64))), .second, .val (.int (0 : Int32)), .val (.long (cv.toInt64 - (48 : Int64))), .second, .val (.int (1 : Int32)), .unset] [(.int cv)]))
        refine Go.s (fun k => XS.bipush X0.here hx rfl (hb hby own_d2_62) k) ?_
        show Go p.tables e below P (s₁.setTop (mkF m 64 #[.val (.int cv), .val (.long ((cv ||| (32 : Int32)).toInt64 - (97 : Int64))), .second, .val (.int (0 : Int32)), .val (.long (cv.toInt64 - (48 : Int64))), .second, .val (.int (1 : Int32)), .unset] [(.int (95 : Int32)), (.int cv)]))
        by_cases hc64 : cv = (95 : Int32)
        · skip
          refine Go.s (fun k => XS.icmpNo X0.here hx rfl (hb hby own_d2_64) rfl (XT.ii_ne_f hc64) k) ?_
          show Go p.tables e below P (s₁.setTop (mkF m 67 #[.val (.int cv), .val (.long ((cv ||| (32 : Int32)).toInt64 - (97 : Int64))), .second, .val (.int (0 : Int32)), .val (.long (cv.toInt64 - (48 : Int64))), .second, .val (.int (1 : Int32)), .unset] []))
          refine Go.s (fun k => XS.iconst X0.here hx rfl (hb hby own_d2_67) k) ?_
          show Go p.tables e below P (s₁.setTop (mkF m 68 #[.val (.int cv), .val (.long ((cv ||| (32 : Int32)).toInt64 - (97 : Int64))), .second, .val (.int (0 : Int32)), .val (.long (cv.toInt64 - (48 : Int64))), .second, .val (.int (1 : Int32)), .unset] [(.int (1 : Int32))]))
          refine Go.s (fun k => XS.goto X0.here hx rfl (pc0 := 68) (pc' := 72) rfl (hb hby own_d2_68) (by decide) (by decide) k) ?_
          show Go p.tables e below P (s₁.setTop (mkF m 72 #[.val (.int cv), .val (.long ((cv ||| (32 : Int32)).toInt64 - (97 : Int64))), .second, .val (.int (0 : Int32)), .val (.long (cv.toInt64 - (48 : Int64))), .second, .val (.int (1 : Int32)), .unset] [(.int (1 : Int32))]))
          refine Go.s (fun k => XS.istore X0.here hx rfl (hb hby own_d2_72) rfl (l' := #[.val (.int cv), .val (.long ((cv ||| (32 : Int32)).toInt64 - (97 : Int64))), .second, .val (.int (0 : Int32)), .val (.long (cv.toInt64 - (48 : Int64))), .second, .val (.int (1 : Int32)), .val (.int (1 : Int32))]) rfl k) ?_
          show Go p.tables e below P (s₁.setTop (mkF m 74 #[.val (.int cv), .val (.long ((cv ||| (32 : Int32)).toInt64 - (97 : Int64))), .second, .val (.int (0 : Int32)), .val (.long (cv.toInt64 - (48 : Int64))), .second, .val (.int (1 : Int32)), .val (.int (1 : Int32))] []))
          refine Go.s (fun k => XS.iloadN X0.here hx rfl (hb hby own_d2_74) rfl k) ?_
          show Go p.tables e below P (s₁.setTop (mkF m 75 #[.val (.int cv), .val (.long ((cv ||| (32 : Int32)).toInt64 - (97 : Int64))), .second, .val (.int (0 : Int32)), .val (.long (cv.toInt64 - (48 : Int64))), .second, .val (.int (1 : Int32)), .val (.int (1 : Int32))] [(.int (0 : Int32))]))
          refine Go.s (fun k => XS.ifNo X0.here hx rfl (hb hby own_d2_75) rfl (XT.i0_ne_f (by decide)) k) ?_
          show Go p.tables e below P (s₁.setTop (mkF m 78 #[.val (.int cv), .val (.long ((cv ||| (32 : Int32)).toInt64 - (97 : Int64))), .second, .val (.int (0 : Int32)), .val (.long (cv.toInt64 - (48 : Int64))), .second, .val (.int (1 : Int32)), .val (.int (1 : Int32))] []))
          refine Go.s (fun k => XS.iload X0.here hx rfl (hb hby own_d2_78) rfl k) ?_
          show Go p.tables e below P (s₁.setTop (mkF m 80 #[.val (.int cv), .val (.long ((cv ||| (32 : Int32)).toInt64 - (97 : Int64))), .second, .val (.int (0 : Int32)), .val (.long (cv.toInt64 - (48 : Int64))), .second, .val (.int (1 : Int32)), .val (.int (1 : Int32))] [(.int (1 : Int32))]))
          refine Go.s (fun k => XS.ifYes X0.here hx rfl (pc0 := 80) (pc' := 88) rfl (hb hby own_d2_80) rfl (XT.i0_ne_t (by decide)) (by decide) (by decide) k) ?_
          show Go p.tables e below P (s₁.setTop (mkF m 88 #[.val (.int cv), .val (.long ((cv ||| (32 : Int32)).toInt64 - (97 : Int64))), .second, .val (.int (0 : Int32)), .val (.long (cv.toInt64 - (48 : Int64))), .second, .val (.int (1 : Int32)), .val (.int (1 : Int32))] []))
          refine Go.s (fun k => XS.iconst X0.here hx rfl (hb hby own_d2_88) k) ?_
          show Go p.tables e below P (s₁.setTop (mkF m 89 #[.val (.int cv), .val (.long ((cv ||| (32 : Int32)).toInt64 - (97 : Int64))), .second, .val (.int (0 : Int32)), .val (.long (cv.toInt64 - (48 : Int64))), .second, .val (.int (1 : Int32)), .val (.int (1 : Int32))] [(.int (1 : Int32))]))
          refine Go.s (fun k => XS.goto X0.here hx rfl (pc0 := 89) (pc' := 93) rfl (hb hby own_d2_89) (by decide) (by decide) k) ?_
          show Go p.tables e below P (s₁.setTop (mkF m 93 #[.val (.int cv), .val (.long ((cv ||| (32 : Int32)).toInt64 - (97 : Int64))), .second, .val (.int (0 : Int32)), .val (.long (cv.toInt64 - (48 : Int64))), .second, .val (.int (1 : Int32)), .val (.int (1 : Int32))] [(.int (1 : Int32))]))
          exact Go.retZ X0 hx hlk hret (by decide) (hb hby own_d2_93) (fun U hU hF => hP U _ _ (by rw [hU, e0]; exact ⟨congrArg some (congrArg Value.int (Eq.symm (by rw [own_f2]; rw [if_pos hc13]; rw [if_neg hc42]; rw [if_pos hc51]; rw [if_pos hc64]))), N0, rfl⟩) ⟨hF.1, hF.2.1, hF.2.2.mono (by decide) (by decide)⟩)
        · skip
          refine Go.s (fun k => XS.icmpYes X0.here hx rfl (pc0 := 64) (pc' := 71) rfl (hb hby own_d2_64) rfl (XT.ii_ne_t hc64) (by decide) (by decide) k) ?_
          show Go p.tables e below P (s₁.setTop (mkF m 71 #[.val (.int cv), .val (.long ((cv ||| (32 : Int32)).toInt64 - (97 : Int64))), .second, .val (.int (0 : Int32)), .val (.long (cv.toInt64 - (48 : Int64))), .second, .val (.int (1 : Int32)), .unset] []))
          refine Go.s (fun k => XS.iconst X0.here hx rfl (hb hby own_d2_71) k) ?_
          show Go p.tables e below P (s₁.setTop (mkF m 72 #[.val (.int cv), .val (.long ((cv ||| (32 : Int32)).toInt64 - (97 : Int64))), .second, .val (.int (0 : Int32)), .val (.long (cv.toInt64 - (48 : Int64))), .second, .val (.int (1 : Int32)), .unset] [(.int (0 : Int32))]))
          refine Go.s (fun k => XS.istore X0.here hx rfl (hb hby own_d2_72) rfl (l' := #[.val (.int cv), .val (.long ((cv ||| (32 : Int32)).toInt64 - (97 : Int64))), .second, .val (.int (0 : Int32)), .val (.long (cv.toInt64 - (48 : Int64))), .second, .val (.int (1 : Int32)), .val (.int (0 : Int32))]) rfl k) ?_
          show Go p.tables e below P (s₁.setTop (mkF m 74 #[.val (.int cv), .val (.long ((cv ||| (32 : Int32)).toInt64 - (97 : Int64))), .second, .val (.int (0 : Int32)), .val (.long (cv.toInt64 - (48 : Int64))), .second, .val (.int (1 : Int32)), .val (.int (0 : Int32))] []))
          refine Go.s (fun k => XS.iloadN X0.here hx rfl (hb hby own_d2_74) rfl k) ?_
          show Go p.tables e below P (s₁.setTop (mkF m 75 #[.val (.int cv), .val (.long ((cv ||| (32 : Int32)).toInt64 - (97 : Int64))), .second, .val (.int (0 : Int32)), .val (.long (cv.toInt64 - (48 : Int64))), .second, .val (.int (1 : Int32)), .val (.int (0 : Int32))] [(.int (0 : Int32))]))
          refine Go.s (fun k => XS.ifNo X0.here hx rfl (hb hby own_d2_75) rfl (XT.i0_ne_f (by decide)) k) ?_
          show Go p.tables e below P (s₁.setTop (mkF m 78 #[.val (.int cv), .val (.long ((cv ||| (32 : Int32)).toInt64 - (97 : Int64))), .second, .val (.int (0 : Int32)), .val (.long (cv.toInt64 - (48 : Int64))), .second, .val (.int (1 : Int32)), .val (.int (0 : Int32))] []))
          refine Go.s (fun k => XS.iload X0.here hx rfl (hb hby own_d2_78) rfl k) ?_
          show Go p.tables e below P (s₁.setTop (mkF m 80 #[.val (.int cv), .val (.long ((cv ||| (32 : Int32)).toInt64 - (97 : Int64))), .second, .val (.int (0 : Int32)), .val (.long (cv.toInt64 - (48 : Int64))), .second, .val (.int (1 : Int32)), .val (.int (0 : Int32))] [(.int (1 : Int32))]))
          refine Go.s (fun k => XS.ifYes X0.here hx rfl (pc0 := 80) (pc' := 88) rfl (hb hby own_d2_80) rfl (XT.i0_ne_t (by decide)) (by decide) (by decide) k) ?_
          show Go p.tables e below P (s₁.setTop (mkF m 88 #[.val (.int cv), .val (.long ((cv ||| (32 : Int32)).toInt64 - (97 : Int64))), .second, .val (.int (0 : Int32)), .val (.long (cv.toInt64 - (48 : Int64))), .second, .val (.int (1 : Int32)), .val (.int (0 : Int32))] []))
          refine Go.s (fun k => XS.iconst X0.here hx rfl (hb hby own_d2_88) k) ?_
          show Go p.tables e below P (s₁.setTop (mkF m 89 #[.val (.int cv), .val (.long ((cv ||| (32 : Int32)).toInt64 - (97 : Int64))), .second, .val (.int (0 : Int32)), .val (.long (cv.toInt64 - (48 : Int64))), .second, .val (.int (1 : Int32)), .val (.int (0 : Int32))] [(.int (1 : Int32))]))
          refine Go.s (fun k => XS.goto X0.here hx rfl (pc0 := 89) (pc' := 93) rfl (hb hby own_d2_89) (by decide) (by decide) k) ?_
          show Go p.tables e below P (s₁.setTop (mkF m 93 #[.val (.int cv), .val (.long ((cv ||| (32 : Int32)).toInt64 - (97 : Int64))), .second, .val (.int (0 : Int32)), .val (.long (cv.toInt64 - (48 : Int64))), .second, .val (.int (1 : Int32)), .val (.int (0 : Int32))] [(.int (1 : Int32))]))
          exact Go.retZ X0 hx hlk hret (by decide) (hb hby own_d2_93) (fun U hU hF => hP U _ _ (by rw [hU, e0]; exact ⟨congrArg some (congrArg Value.int (Eq.symm (by rw [own_f2]; rw [if_pos hc13]; rw [if_neg hc42]; rw [if_pos hc51]; rw [if_neg hc64]))), N0, rfl⟩) ⟨hF.1, hF.2.1, hF.2.2.mono (by decide) (by decide)⟩)
      · skip
        refine Go.s (fun k => XS.ifYes X0.here hx rfl (pc0 := 51) (pc' := 58) rfl (hb hby own_d2_51) rfl (XT.ll_ge_t hc51) (by decide) (by decide) k) ?_
        show Go p.tables e below P (s₁.setTop (mkF m 58 #[.val (.int cv), .val (.long ((cv ||| (32 : Int32)).toInt64 - (97 : Int64))), .second, .val (.int (0 : Int32)), .val (.long (cv.toInt64 - (48 : Int64))), .second, .unset, .unset] []))
        refine Go.s (fun k => XS.iconst X0.here hx rfl (hb hby own_d2_58) k) ?_
        show Go p.tables e below P (s₁.setTop (mkF m 59 #[.val (.int cv), .val (.long ((cv ||| (32 : Int32)).toInt64 - (97 : Int64))), .second, .val (.int (0 : Int32)), .val (.long (cv.toInt64 - (48 : Int64))), .second, .unset, .unset] [(.int (0 : Int32))]))
        refine Go.s (fun k => XS.istore X0.here hx rfl (hb hby own_d2_59) rfl (l' := #[.val (.int cv), .val (.long ((cv ||| (32 : Int32)).toInt64 - (97 : Int64))), .second, .val (.int (0 : Int32)), .val (.long (cv.toInt64 - (48 : Int64))), .second, .val (.int (0 : Int32)), .unset]) rfl k) ?_
        show Go p.tables e below P (s₁.setTop (mkF m 61 #[.val (.int cv), .val (.long ((cv ||| (32 : Int32)).toInt64 - (97 : Int64))), .second, .val (.int (0 : Int32)), .val (.long (cv.toInt64 - (48 : Int64))), .second, .val (.int (0 : Int32)), .unset] []))
        refine Go.s (fun k => XS.iloadN X0.here hx rfl (hb hby own_d2_61) rfl k) ?_
        show Go p.tables e below P (s₁.setTop (mkF m 62 #[.val (.int cv), .val (.long ((cv ||| (32 : Int32)).toInt64 - (97 : Int64))), .second, .val (.int (0 : Int32)), .val (.long (cv.toInt64 - (48 : Int64))), .second, .val (.int (0 : Int32)), .unset] [(.int cv)]))
        refine Go.s (fun k => XS.bipush X0.here hx rfl (hb hby own_d2_62) k) ?_
        show Go p.tables e below P (s₁.setTop (mkF m 64 #[.val (.int cv), .val (.long ((cv ||| (32 : Int32)).toInt64 - (97 : Int64))), .second, .val (.int (0 : Int32)), .val (.long (cv.toInt64 - (48 : Int64))), .second, .val (.int (0 : Int32)), .unset] [(.int (95 : Int32)), (.int cv)]))
        by_cases hc64 : cv = (95 : Int32)
        · skip
          refine Go.s (fun k => XS.icmpNo X0.here hx rfl (hb hby own_d2_64) rfl (XT.ii_ne_f hc64) k) ?_
          show Go p.tables e below P (s₁.setTop (mkF m 67 #[.val (.int cv), .val (.long ((cv ||| (32 : Int32)).toInt64 - (97 : Int64))), .second, .val (.int (0 : Int32)), .val (.long (cv.toInt64 - (48 : Int64))), .second, .val (.int (0 : Int32)), .unset] []))
          refine Go.s (fun k => XS.iconst X0.here hx rfl (hb hby own_d2_67) k) ?_
          show Go p.tables e below P (s₁.setTop (mkF m 68 #[.val (.int cv), .val (.long ((cv ||| (32 : Int32)).toInt64 - (97 : Int64))), .second, .val (.int (0 : Int32)), .val (.long (cv.toInt64 - (48 : Int64))), .second, .val (.int (0 : Int32)), .unset] [(.int (1 : Int32))]))
          refine Go.s (fun k => XS.goto X0.here hx rfl (pc0 := 68) (pc' := 72) rfl (hb hby own_d2_68) (by decide) (by decide) k) ?_
          show Go p.tables e below P (s₁.setTop (mkF m 72 #[.val (.int cv), .val (.long ((cv ||| (32 : Int32)).toInt64 - (97 : Int64))), .second, .val (.int (0 : Int32)), .val (.long (cv.toInt64 - (48 : Int64))), .second, .val (.int (0 : Int32)), .unset] [(.int (1 : Int32))]))
          refine Go.s (fun k => XS.istore X0.here hx rfl (hb hby own_d2_72) rfl (l' := #[.val (.int cv), .val (.long ((cv ||| (32 : Int32)).toInt64 - (97 : Int64))), .second, .val (.int (0 : Int32)), .val (.long (cv.toInt64 - (48 : Int64))), .second, .val (.int (0 : Int32)), .val (.int (1 : Int32))]) rfl k) ?_
          show Go p.tables e below P (s₁.setTop (mkF m 74 #[.val (.int cv), .val (.long ((cv ||| (32 : Int32)).toInt64 - (97 : Int64))), .second, .val (.int (0 : Int32)), .val (.long (cv.toInt64 - (48 : Int64))), .second, .val (.int (0 : Int32)), .val (.int (1 : Int32))] []))
          refine Go.s (fun k => XS.iloadN X0.here hx rfl (hb hby own_d2_74) rfl k) ?_
          show Go p.tables e below P (s₁.setTop (mkF m 75 #[.val (.int cv), .val (.long ((cv ||| (32 : Int32)).toInt64 - (97 : Int64))), .second, .val (.int (0 : Int32)), .val (.long (cv.toInt64 - (48 : Int64))), .second, .val (.int (0 : Int32)), .val (.int (1 : Int32))] [(.int (0 : Int32))]))
          refine Go.s (fun k => XS.ifNo X0.here hx rfl (hb hby own_d2_75) rfl (XT.i0_ne_f (by decide)) k) ?_
          show Go p.tables e below P (s₁.setTop (mkF m 78 #[.val (.int cv), .val (.long ((cv ||| (32 : Int32)).toInt64 - (97 : Int64))), .second, .val (.int (0 : Int32)), .val (.long (cv.toInt64 - (48 : Int64))), .second, .val (.int (0 : Int32)), .val (.int (1 : Int32))] []))
          refine Go.s (fun k => XS.iload X0.here hx rfl (hb hby own_d2_78) rfl k) ?_
          show Go p.tables e below P (s₁.setTop (mkF m 80 #[.val (.int cv), .val (.long ((cv ||| (32 : Int32)).toInt64 - (97 : Int64))), .second, .val (.int (0 : Int32)), .val (.long (cv.toInt64 - (48 : Int64))), .second, .val (.int (0 : Int32)), .val (.int (1 : Int32))] [(.int (0 : Int32))]))
          refine Go.s (fun k => XS.ifNo X0.here hx rfl (hb hby own_d2_80) rfl (XT.i0_ne_f (by decide)) k) ?_
          show Go p.tables e below P (s₁.setTop (mkF m 83 #[.val (.int cv), .val (.long ((cv ||| (32 : Int32)).toInt64 - (97 : Int64))), .second, .val (.int (0 : Int32)), .val (.long (cv.toInt64 - (48 : Int64))), .second, .val (.int (0 : Int32)), .val (.int (1 : Int32))] []))
          refine Go.s (fun k => XS.iload X0.here hx rfl (hb hby own_d2_83) rfl k) ?_
          show Go p.tables e below P (s₁.setTop (mkF m 85 #[.val (.int cv), .val (.long ((cv ||| (32 : Int32)).toInt64 - (97 : Int64))), .second, .val (.int (0 : Int32)), .val (.long (cv.toInt64 - (48 : Int64))), .second, .val (.int (0 : Int32)), .val (.int (1 : Int32))] [(.int (1 : Int32))]))
          refine Go.s (fun k => XS.ifNo X0.here hx rfl (hb hby own_d2_85) rfl (XT.i0_eq_f (by decide)) k) ?_
          show Go p.tables e below P (s₁.setTop (mkF m 88 #[.val (.int cv), .val (.long ((cv ||| (32 : Int32)).toInt64 - (97 : Int64))), .second, .val (.int (0 : Int32)), .val (.long (cv.toInt64 - (48 : Int64))), .second, .val (.int (0 : Int32)), .val (.int (1 : Int32))] []))
          refine Go.s (fun k => XS.iconst X0.here hx rfl (hb hby own_d2_88) k) ?_
          show Go p.tables e below P (s₁.setTop (mkF m 89 #[.val (.int cv), .val (.long ((cv ||| (32 : Int32)).toInt64 - (97 : Int64))), .second, .val (.int (0 : Int32)), .val (.long (cv.toInt64 - (48 : Int64))), .second, .val (.int (0 : Int32)), .val (.int (1 : Int32))] [(.int (1 : Int32))]))
          refine Go.s (fun k => XS.goto X0.here hx rfl (pc0 := 89) (pc' := 93) rfl (hb hby own_d2_89) (by decide) (by decide) k) ?_
          show Go p.tables e below P (s₁.setTop (mkF m 93 #[.val (.int cv), .val (.long ((cv ||| (32 : Int32)).toInt64 - (97 : Int64))), .second, .val (.int (0 : Int32)), .val (.long (cv.toInt64 - (48 : Int64))), .second, .val (.int (0 : Int32)), .val (.int (1 : Int32))] [(.int (1 : Int32))]))
          exact Go.retZ X0 hx hlk hret (by decide) (hb hby own_d2_93) (fun U hU hF => hP U _ _ (by rw [hU, e0]; exact ⟨congrArg some (congrArg Value.int (Eq.symm (by rw [own_f2]; rw [if_pos hc13]; rw [if_neg hc42]; rw [if_neg hc51]; rw [if_pos hc64]))), N0, rfl⟩) ⟨hF.1, hF.2.1, hF.2.2.mono (by decide) (by decide)⟩)
        · skip
          refine Go.s (fun k => XS.icmpYes X0.here hx rfl (pc0 := 64) (pc' := 71) rfl (hb hby own_d2_64) rfl (XT.ii_ne_t hc64) (by decide) (by decide) k) ?_
          show Go p.tables e below P (s₁.setTop (mkF m 71 #[.val (.int cv), .val (.long ((cv ||| (32 : Int32)).toInt64 - (97 : Int64))), .second, .val (.int (0 : Int32)), .val (.long (cv.toInt64 - (48 : Int64))), .second, .val (.int (0 : Int32)), .unset] []))
          refine Go.s (fun k => XS.iconst X0.here hx rfl (hb hby own_d2_71) k) ?_
          show Go p.tables e below P (s₁.setTop (mkF m 72 #[.val (.int cv), .val (.long ((cv ||| (32 : Int32)).toInt64 - (97 : Int64))), .second, .val (.int (0 : Int32)), .val (.long (cv.toInt64 - (48 : Int64))), .second, .val (.int (0 : Int32)), .unset] [(.int (0 : Int32))]))
          refine Go.s (fun k => XS.istore X0.here hx rfl (hb hby own_d2_72) rfl (l' := #[.val (.int cv), .val (.long ((cv ||| (32 : Int32)).toInt64 - (97 : Int64))), .second, .val (.int (0 : Int32)), .val (.long (cv.toInt64 - (48 : Int64))), .second, .val (.int (0 : Int32)), .val (.int (0 : Int32))]) rfl k) ?_
          show Go p.tables e below P (s₁.setTop (mkF m 74 #[.val (.int cv), .val (.long ((cv ||| (32 : Int32)).toInt64 - (97 : Int64))), .second, .val (.int (0 : Int32)), .val (.long (cv.toInt64 - (48 : Int64))), .second, .val (.int (0 : Int32)), .val (.int (0 : Int32))] []))
          refine Go.s (fun k => XS.iloadN X0.here hx rfl (hb hby own_d2_74) rfl k) ?_
          show Go p.tables e below P (s₁.setTop (mkF m 75 #[.val (.int cv), .val (.long ((cv ||| (32 : Int32)).toInt64 - (97 : Int64))), .second, .val (.int (0 : Int32)), .val (.long (cv.toInt64 - (48 : Int64))), .second, .val (.int (0 : Int32)), .val (.int (0 : Int32))] [(.int (0 : Int32))]))
          refine Go.s (fun k => XS.ifNo X0.here hx rfl (hb hby own_d2_75) rfl (XT.i0_ne_f (by decide)) k) ?_
          show Go p.tables e below P (s₁.setTop (mkF m 78 #[.val (.int cv), .val (.long ((cv ||| (32 : Int32)).toInt64 - (97 : Int64))), .second, .val (.int (0 : Int32)), .val (.long (cv.toInt64 - (48 : Int64))), .second, .val (.int (0 : Int32)), .val (.int (0 : Int32))] []))
          refine Go.s (fun k => XS.iload X0.here hx rfl (hb hby own_d2_78) rfl k) ?_
          show Go p.tables e below P (s₁.setTop (mkF m 80 #[.val (.int cv), .val (.long ((cv ||| (32 : Int32)).toInt64 - (97 : Int64))), .second, .val (.int (0 : Int32)), .val (.long (cv.toInt64 - (48 : Int64))), .second, .val (.int (0 : Int32)), .val (.int (0 : Int32))] [(.int (0 : Int32))]))
          refine Go.s (fun k => XS.ifNo X0.here hx rfl (hb hby own_d2_80) rfl (XT.i0_ne_f (by decide)) k) ?_
          show Go p.tables e below P (s₁.setTop (mkF m 83 #[.val (.int cv), .val (.long ((cv ||| (32 : Int32)).toInt64 - (97 : Int64))), .second, .val (.int (0 : Int32)), .val (.long (cv.toInt64 - (48 : Int64))), .second, .val (.int (0 : Int32)), .val (.int (0 : Int32))] []))
          refine Go.s (fun k => XS.iload X0.here hx rfl (hb hby own_d2_83) rfl k) ?_
          show Go p.tables e below P (s₁.setTop (mkF m 85 #[.val (.int cv), .val (.long ((cv ||| (32 : Int32)).toInt64 - (97 : Int64))), .second, .val (.int (0 : Int32)), .val (.long (cv.toInt64 - (48 : Int64))), .second, .val (.int (0 : Int32)), .val (.int (0 : Int32))] [(.int (0 : Int32))]))
          refine Go.s (fun k => XS.ifYes X0.here hx rfl (pc0 := 85) (pc' := 92) rfl (hb hby own_d2_85) rfl (XT.i0_eq_t (by decide)) (by decide) (by decide) k) ?_
          show Go p.tables e below P (s₁.setTop (mkF m 92 #[.val (.int cv), .val (.long ((cv ||| (32 : Int32)).toInt64 - (97 : Int64))), .second, .val (.int (0 : Int32)), .val (.long (cv.toInt64 - (48 : Int64))), .second, .val (.int (0 : Int32)), .val (.int (0 : Int32))] []))
          refine Go.s (fun k => XS.iconst X0.here hx rfl (hb hby own_d2_92) k) ?_
          show Go p.tables e below P (s₁.setTop (mkF m 93 #[.val (.int cv), .val (.long ((cv ||| (32 : Int32)).toInt64 - (97 : Int64))), .second, .val (.int (0 : Int32)), .val (.long (cv.toInt64 - (48 : Int64))), .second, .val (.int (0 : Int32)), .val (.int (0 : Int32))] [(.int (0 : Int32))]))
          exact Go.retZ X0 hx hlk hret (by decide) (hb hby own_d2_93) (fun U hU hF => hP U _ _ (by rw [hU, e0]; exact ⟨congrArg some (congrArg Value.int (Eq.symm (by rw [own_f2]; rw [if_pos hc13]; rw [if_neg hc42]; rw [if_neg hc51]; rw [if_neg hc64]))), N0, rfl⟩) ⟨hF.1, hF.2.1, hF.2.2.mono (by decide) (by decide)⟩)
  · skip
    refine Go.s (fun k => XS.ifNo X0.here hx rfl (hb hby own_d2_13) rfl (XT.ll_lt_f hc13) k) ?_
    show Go p.tables e below P (s₁.setTop (mkF m 16 #[.val (.int cv), .val (.long ((cv ||| (32 : Int32)).toInt64 - (97 : Int64))), .second, .unset, .unset, .unset, .unset, .unset] []))
    refine Go.s (fun k => XT.lloadN X0.here hx rfl (hb hby own_d2_16) rfl k) ?_
    show Go p.tables e below P (s₁.setTop (mkF m 17 #[.val (.int cv), .val (.long ((cv ||| (32 : Int32)).toInt64 - (97 : Int64))), .second, .unset, .unset, .unset, .unset, .unset] [(.long ((cv ||| (32 : Int32)).toInt64 - (97 : Int64)))]))
    refine Go.s (fun k => X0.ldc2J hx hown (mvT hZ (hw _ (List.mem_of_getElem? (i := 12) rfl))) rfl (hb hby own_d2_17) k) ?_
    show Go p.tables e below P (s₁.setTop (mkF m 20 #[.val (.int cv), .val (.long ((cv ||| (32 : Int32)).toInt64 - (97 : Int64))), .second, .unset, .unset, .unset, .unset, .unset] [(.long (26 : Int64)), (.long ((cv ||| (32 : Int32)).toInt64 - (97 : Int64)))]))
    refine Go.s (fun k => XT.lcmp X0.here hx rfl (hb hby own_d2_20) rfl k) ?_
    show Go p.tables e below P (s₁.setTop (mkF m 21 #[.val (.int cv), .val (.long ((cv ||| (32 : Int32)).toInt64 - (97 : Int64))), .second, .unset, .unset, .unset, .unset, .unset] [(.int (XT.cmpL ((cv ||| (32 : Int32)).toInt64 - (97 : Int64)) (26 : Int64)))]))
    by_cases hc21 : ((cv ||| (32 : Int32)).toInt64 - (97 : Int64)) < (26 : Int64)
    · skip
      refine Go.s (fun k => XS.ifNo X0.here hx rfl (hb hby own_d2_21) rfl (XT.ll_ge_f hc21) k) ?_
      show Go p.tables e below P (s₁.setTop (mkF m 24 #[.val (.int cv), .val (.long ((cv ||| (32 : Int32)).toInt64 - (97 : Int64))), .second, .unset, .unset, .unset, .unset, .unset] []))
      refine Go.s (fun k => XS.iconst X0.here hx rfl (hb hby own_d2_24) k) ?_
      show Go p.tables e below P (s₁.setTop (mkF m 25 #[.val (.int cv), .val (.long ((cv ||| (32 : Int32)).toInt64 - (97 : Int64))), .second, .unset, .unset, .unset, .unset, .unset] [(.int (1 : Int32))]))
      refine Go.s (fun k => XS.goto X0.here hx rfl (pc0 := 25) (pc' := 29) rfl (hb hby own_d2_25) (by decide) (by decide) k) ?_
      show Go p.tables e below P (s₁.setTop (mkF m 29 #[.val (.int cv), .val (.long ((cv ||| (32 : Int32)).toInt64 - (97 : Int64))), .second, .unset, .unset, .unset, .unset, .unset] [(.int (1 : Int32))]))
      refine Go.s (fun k => XS.istoreN X0.here hx rfl (hb hby own_d2_29) rfl (l' := #[.val (.int cv), .val (.long ((cv ||| (32 : Int32)).toInt64 - (97 : Int64))), .second, .val (.int (1 : Int32)), .unset, .unset, .unset, .unset]) rfl k) ?_
      show Go p.tables e below P (s₁.setTop (mkF m 30 #[.val (.int cv), .val (.long ((cv ||| (32 : Int32)).toInt64 - (97 : Int64))), .second, .val (.int (1 : Int32)), .unset, .unset, .unset, .unset] []))
      refine Go.s (fun k => XS.iloadN X0.here hx rfl (hb hby own_d2_30) rfl k) ?_
      show Go p.tables e below P (s₁.setTop (mkF m 31 #[.val (.int cv), .val (.long ((cv ||| (32 : Int32)).toInt64 - (97 : Int64))), .second, .val (.int (1 : Int32)), .unset, .unset, .unset, .unset] [(.int cv)]))
      refine Go.s (fun k => XT.i2l X0.here hx rfl (hb hby own_d2_31) rfl k) ?_
      show Go p.tables e below P (s₁.setTop (mkF m 32 #[.val (.int cv), .val (.long ((cv ||| (32 : Int32)).toInt64 - (97 : Int64))), .second, .val (.int (1 : Int32)), .unset, .unset, .unset, .unset] [(.long cv.toInt64)]))
      refine Go.s (fun k => X0.ldc2J hx hown (mvT hZ (hw _ (List.mem_of_getElem? (i := 11) rfl))) rfl (hb hby own_d2_32) k) ?_
      show Go p.tables e below P (s₁.setTop (mkF m 35 #[.val (.int cv), .val (.long ((cv ||| (32 : Int32)).toInt64 - (97 : Int64))), .second, .val (.int (1 : Int32)), .unset, .unset, .unset, .unset] [(.long (48 : Int64)), (.long cv.toInt64)]))
      refine Go.s (fun k => XT.lsub X0.here hx rfl (hb hby own_d2_35) rfl k) ?_
      show Go p.tables e below P (s₁.setTop (mkF m 36 #[.val (.int cv), .val (.long ((cv ||| (32 : Int32)).toInt64 - (97 : Int64))), .second, .val (.int (1 : Int32)), .unset, .unset, .unset, .unset] [(.long (cv.toInt64 - (48 : Int64)))]))
      refine Go.s (fun k => XT.lstore X0.here hx rfl (hb hby own_d2_36) rfl (l' := #[.val (.int cv), .val (.long ((cv ||| (32 : Int32)).toInt64 - (97 : Int64))), .second, .val (.int (1 : Int32)), .val (.long (cv.toInt64 - (48 : Int64))), .second, .unset, .unset]) rfl k) ?_
      show Go p.tables e below P (s₁.setTop (mkF m 38 #[.val (.int cv), .val (.long ((cv ||| (32 : Int32)).toInt64 - (97 : Int64))), .second, .val (.int (1 : Int32)), .val (.long (cv.toInt64 - (48 : Int64))), .second, .unset, .unset] []))
      refine Go.s (fun k => XT.lload X0.here hx rfl (hb hby own_d2_38) rfl k) ?_
      show Go p.tables e below P (s₁.setTop (mkF m 40 #[.val (.int cv), .val (.long ((cv ||| (32 : Int32)).toInt64 - (97 : Int64))), .second, .val (.int (1 : Int32)), .val (.long (cv.toInt64 - (48 : Int64))), .second, .unset, .unset] [(.long (cv.toInt64 - (48 : Int64)))]))
      refine Go.s (fun k => XT.lconst X0.here hx rfl (hb hby own_d2_40) k) ?_
      show Go p.tables e below P (s₁.setTop (mkF m 41 #[.val (.int cv), .val (.long ((cv ||| (32 : Int32)).toInt64 - (97 : Int64))), .second, .val (.int (1 : Int32)), .val (.long (cv.toInt64 - (48 : Int64))), .second, .unset, .unset] [(.long (0 : Int64)), (.long (cv.toInt64 - (48 : Int64)))]))
      refine Go.s (fun k => XT.lcmp X0.here hx rfl (hb hby own_d2_41) rfl k) ?_
      show Go p.tables e below P (s₁.setTop (mkF m 42 #[.val (.int cv), .val (.long ((cv ||| (32 : Int32)).toInt64 - (97 : Int64))), .second, .val (.int (1 : Int32)), .val (.long (cv.toInt64 - (48 : Int64))), .second, .unset, .unset] [(.int (XT.cmpL (cv.toInt64 - (48 : Int64)) (0 : Int64)))]))
      by_cases hc42 : (cv.toInt64 - (48 : Int64)) < (0 : Int64)
      · skip
        refine Go.s (fun k => XS.ifYes X0.here hx rfl (pc0 := 42) (pc' := 58) rfl (hb hby own_d2_42) rfl (XT.ll_lt_t hc42) (by decide) (by decide) k) ?_
        show Go p.tables e below P (s₁.setTop (mkF m 58 #[.val (.int cv), .val (.long ((cv ||| (32 : Int32)).toInt64 - (97 : Int64))), .second, .val (.int (1 : Int32)), .val (.long (cv.toInt64 - (48 : Int64))), .second, .unset, .unset] []))
        refine Go.s (fun k => XS.iconst X0.here hx rfl (hb hby own_d2_58) k) ?_
        show Go p.tables e below P (s₁.setTop (mkF m 59 #[.val (.int cv), .val (.long ((cv ||| (32 : Int32)).toInt64 - (97 : Int64))), .second, .val (.int (1 : Int32)), .val (.long (cv.toInt64 - (48 : Int64))), .second, .unset, .unset] [(.int (0 : Int32))]))
        refine Go.s (fun k => XS.istore X0.here hx rfl (hb hby own_d2_59) rfl (l' := #[.val (.int cv), .val (.long ((cv ||| (32 : Int32)).toInt64 - (97 : Int64))), .second, .val (.int (1 : Int32)), .val (.long (cv.toInt64 - (48 : Int64))), .second, .val (.int (0 : Int32)), .unset]) rfl k) ?_
        show Go p.tables e below P (s₁.setTop (mkF m 61 #[.val (.int cv), .val (.long ((cv ||| (32 : Int32)).toInt64 - (97 : Int64))), .second, .val (.int (1 : Int32)), .val (.long (cv.toInt64 - (48 : Int64))), .second, .val (.int (0 : Int32)), .unset] []))
        refine Go.s (fun k => XS.iloadN X0.here hx rfl (hb hby own_d2_61) rfl k) ?_
        show Go p.tables e below P (s₁.setTop (mkF m 62 #[.val (.int cv), .val (.long ((cv ||| (32 : Int32)).toInt64 - (97 : Int64))), .second, .val (.int (1 : Int32)), .val (.long (cv.toInt64 - (48 : Int64))), .second, .val (.int (0 : Int32)), .unset] [(.int cv)]))
        refine Go.s (fun k => XS.bipush X0.here hx rfl (hb hby own_d2_62) k) ?_
        show Go p.tables e below P (s₁.setTop (mkF m 64 #[.val (.int cv), .val (.long ((cv ||| (32 : Int32)).toInt64 - (97 : Int64))), .second, .val (.int (1 : Int32)), .val (.long (cv.toInt64 - (48 : Int64))), .second, .val (.int (0 : Int32)), .unset] [(.int (95 : Int32)), (.int cv)]))
        by_cases hc64 : cv = (95 : Int32)
        · skip
          refine Go.s (fun k => XS.icmpNo X0.here hx rfl (hb hby own_d2_64) rfl (XT.ii_ne_f hc64) k) ?_
          show Go p.tables e below P (s₁.setTop (mkF m 67 #[.val (.int cv), .val (.long ((cv ||| (32 : Int32)).toInt64 - (97 : Int64))), .second, .val (.int (1 : Int32)), .val (.long (cv.toInt64 - (48 : Int64))), .second, .val (.int (0 : Int32)), .unset] []))
          refine Go.s (fun k => XS.iconst X0.here hx rfl (hb hby own_d2_67) k) ?_
          show Go p.tables e below P (s₁.setTop (mkF m 68 #[.val (.int cv), .val (.long ((cv ||| (32 : Int32)).toInt64 - (97 : Int64))), .second, .val (.int (1 : Int32)), .val (.long (cv.toInt64 - (48 : Int64))), .second, .val (.int (0 : Int32)), .unset] [(.int (1 : Int32))]))
          refine Go.s (fun k => XS.goto X0.here hx rfl (pc0 := 68) (pc' := 72) rfl (hb hby own_d2_68) (by decide) (by decide) k) ?_
          show Go p.tables e below P (s₁.setTop (mkF m 72 #[.val (.int cv), .val (.long ((cv ||| (32 : Int32)).toInt64 - (97 : Int64))), .second, .val (.int (1 : Int32)), .val (.long (cv.toInt64 - (48 : Int64))), .second, .val (.int (0 : Int32)), .unset] [(.int (1 : Int32))]))
          refine Go.s (fun k => XS.istore X0.here hx rfl (hb hby own_d2_72) rfl (l' := #[.val (.int cv), .val (.long ((cv ||| (32 : Int32)).toInt64 - (97 : Int64))), .second, .val (.int (1 : Int32)), .val (.long (cv.toInt64 - (48 : Int64))), .second, .val (.int (0 : Int32)), .val (.int (1 : Int32))]) rfl k) ?_
          show Go p.tables e below P (s₁.setTop (mkF m 74 #[.val (.int cv), .val (.long ((cv ||| (32 : Int32)).toInt64 - (97 : Int64))), .second, .val (.int (1 : Int32)), .val (.long (cv.toInt64 - (48 : Int64))), .second, .val (.int (0 : Int32)), .val (.int (1 : Int32))] []))
          refine Go.s (fun k => XS.iloadN X0.here hx rfl (hb hby own_d2_74) rfl k) ?_
          show Go p.tables e below P (s₁.setTop (mkF m 75 #[.val (.int cv), .val (.long ((cv ||| (32 : Int32)).toInt64 - (97 : Int64))), .second, .val (.int (1 : Int32)), .val (.long (cv.toInt64 - (48 : Int64))), .second, .val (.int (0 : Int32)), .val (.int (1 : Int32))] [(.int (1 : Int32))]))
          refine Go.s (fun k => XS.ifYes X0.here hx rfl (pc0 := 75) (pc' := 88) rfl (hb hby own_d2_75) rfl (XT.i0_ne_t (by decide)) (by decide) (by decide) k) ?_
          show Go p.tables e below P (s₁.setTop (mkF m 88 #[.val (.int cv), .val (.long ((cv ||| (32 : Int32)).toInt64 - (97 : Int64))), .second, .val (.int (1 : Int32)), .val (.long (cv.toInt64 - (48 : Int64))), .second, .val (.int (0 : Int32)), .val (.int (1 : Int32))] []))
          refine Go.s (fun k => XS.iconst X0.here hx rfl (hb hby own_d2_88) k) ?_
          show Go p.tables e below P (s₁.setTop (mkF m 89 #[.val (.int cv), .val (.long ((cv ||| (32 : Int32)).toInt64 - (97 : Int64))), .second, .val (.int (1 : Int32)), .val (.long (cv.toInt64 - (48 : Int64))), .second, .val (.int (0 : Int32)), .val (.int (1 : Int32))] [(.int (1 : Int32))]))
          refine Go.s (fun k => XS.goto X0.here hx rfl (pc0 := 89) (pc' := 93) rfl (hb hby own_d2_89) (by decide) (by decide) k) ?_
          show Go p.tables e below P (s₁.setTop (mkF m 93 #[.val (.int cv), .val (.long ((cv ||| (32 : Int32)).toInt64 - (97 : Int64))), .second, .val (.int (1 : Int32)), .val (.long (cv.toInt64 - (48 : Int64))), .second, .val (.int (0 : Int32)), .val (.int (1 : Int32))] [(.int (1 : Int32))]))
          exact Go.retZ X0 hx hlk hret (by decide) (hb hby own_d2_93) (fun U hU hF => hP U _ _ (by rw [hU, e0]; exact ⟨congrArg some (congrArg Value.int (Eq.symm (by rw [own_f2]; rw [if_neg hc13]; rw [if_pos hc21]; rw [if_pos hc42]; rw [if_pos hc64]))), N0, rfl⟩) ⟨hF.1, hF.2.1, hF.2.2.mono (by decide) (by decide)⟩)
        · skip
          refine Go.s (fun k => XS.icmpYes X0.here hx rfl (pc0 := 64) (pc' := 71) rfl (hb hby own_d2_64) rfl (XT.ii_ne_t hc64) (by decide) (by decide) k) ?_
          show Go p.tables e below P (s₁.setTop (mkF m 71 #[.val (.int cv), .val (.long ((cv ||| (32 : Int32)).toInt64 - (97 : Int64))), .second, .val (.int (1 : Int32)), .val (.long (cv.toInt64 - (48 : Int64))), .second, .val (.int (0 : Int32)), .unset] []))
          refine Go.s (fun k => XS.iconst X0.here hx rfl (hb hby own_d2_71) k) ?_
          show Go p.tables e below P (s₁.setTop (mkF m 72 #[.val (.int cv), .val (.long ((cv ||| (32 : Int32)).toInt64 - (97 : Int64))), .second, .val (.int (1 : Int32)), .val (.long (cv.toInt64 - (48 : Int64))), .second, .val (.int (0 : Int32)), .unset] [(.int (0 : Int32))]))
          refine Go.s (fun k => XS.istore X0.here hx rfl (hb hby own_d2_72) rfl (l' := #[.val (.int cv), .val (.long ((cv ||| (32 : Int32)).toInt64 - (97 : Int64))), .second, .val (.int (1 : Int32)), .val (.long (cv.toInt64 - (48 : Int64))), .second, .val (.int (0 : Int32)), .val (.int (0 : Int32))]) rfl k) ?_
          show Go p.tables e below P (s₁.setTop (mkF m 74 #[.val (.int cv), .val (.long ((cv ||| (32 : Int32)).toInt64 - (97 : Int64))), .second, .val (.int (1 : Int32)), .val (.long (cv.toInt64 - (48 : Int64))), .second, .val (.int (0 : Int32)), .val (.int (0 : Int32))] []))
          refine Go.s (fun k => XS.iloadN X0.here hx rfl (hb hby own_d2_74) rfl k) ?_
          show Go p.tables e below P (s₁.setTop (mkF m 75 #[.val (.int cv), .val (.long ((cv ||| (32 : Int32)).toInt64 - (97 : Int64))), .second, .val (.int (1 : Int32)), .val (.long (cv.toInt64 - (48 : Int64))), .second, .val (.int (0 : Int32)), .val (.int (0 : Int32))] [(.int (1 : Int32))]))
          refine Go.s (fun k => XS.ifYes X0.here hx rfl (pc0 := 75) (pc' := 88) rfl (hb hby own_d2_75) rfl (XT.i0_ne_t (by decide)) (by decide) (by decide) k) ?_
          show Go p.tables e below P (s₁.setTop (mkF m 88 #[.val (.int cv), .val (.long ((cv ||| (32 : Int32)).toInt64 - (97 : Int64))), .second, .val (.int (1 : Int32)), .val (.long (cv.toInt64 - (48 : Int64))), .second, .val (.int (0 : Int32)), .val (.int (0 : Int32))] []))
          refine Go.s (fun k => XS.iconst X0.here hx rfl (hb hby own_d2_88) k) ?_
          show Go p.tables e below P (s₁.setTop (mkF m 89 #[.val (.int cv), .val (.long ((cv ||| (32 : Int32)).toInt64 - (97 : Int64))), .second, .val (.int (1 : Int32)), .val (.long (cv.toInt64 - (48 : Int64))), .second, .val (.int (0 : Int32)), .val (.int (0 : Int32))] [(.int (1 : Int32))]))
          refine Go.s (fun k => XS.goto X0.here hx rfl (pc0 := 89) (pc' := 93) rfl (hb hby own_d2_89) (by decide) (by decide) k) ?_
          show Go p.tables e below P (s₁.setTop (mkF m 93 #[.val (.int cv), .val (.long ((cv ||| (32 : Int32)).toInt64 - (97 : Int64))), .second, .val (.int (1 : Int32)), .val (.long (cv.toInt64 - (48 : Int64))), .second, .val (.int (0 : Int32)), .val (.int (0 : Int32))] [(.int (1 : Int32))]))
          exact Go.retZ X0 hx hlk hret (by decide) (hb hby own_d2_93) (fun U hU hF => hP U _ _ (by rw [hU, e0]; exact ⟨congrArg some (congrArg Value.int (Eq.symm (by rw [own_f2]; rw [if_neg hc13]; rw [if_pos hc21]; rw [if_pos hc42]; rw [if_neg hc64]))), N0, rfl⟩) ⟨hF.1, hF.2.1, hF.2.2.mono (by decide) (by decide)⟩)
      · skip
        refine Go.s (fun k => XS.ifNo X0.here hx rfl (hb hby own_d2_42) rfl (XT.ll_lt_f hc42) k) ?_
        show Go p.tables e below P (s₁.setTop (mkF m 45 #[.val (.int cv), .val (.long ((cv ||| (32 : Int32)).toInt64 - (97 : Int64))), .second, .val (.int (1 : Int32)), .val (.long (cv.toInt64 - (48 : Int64))), .second, .unset, .unset] []))
        refine Go.s (fun k => XT.lload X0.here hx rfl (hb hby own_d2_45) rfl k) ?_
        show Go p.tables e below P (s₁.setTop (mkF m 47 #[.val (.int cv), .val (.long ((cv ||| (32 : Int32)).toInt64 - (97 : Int64))), .second, .val (.int (1 : Int32)), .val (.long (cv.toInt64 - (48 : Int64))), .second, .unset, .unset] [(.long (cv.toInt64 - (48 : Int64)))]))
        refine Go.s (fun k => X0.ldc2J hx hown (mvT hZ (hw _ (List.mem_of_getElem? (i := 13) rfl))) rfl (hb hby own_d2_47) k) ?_
        show Go p.tables e below P (s₁.setTop (mkF m 50 #[.val (.int cv), .val (.long ((cv ||| (32 : Int32)).toInt64 - (97 : Int64))), .second, .val (.int (1 : Int32)), .val (.long (cv.toInt64 - (48 : Int64))), .second, .unset, .unset] [(.long (10 : Int64)), (.long (cv.toInt64 - (48 : Int64)))]))
        refine Go.s (fun k => XT.lcmp X0.here hx rfl (hb hby own_d2_50) rfl k) ?_
        show Go p.tables e below P (s₁.setTop (mkF m 51 #[.val (.int cv), .val (.long ((cv ||| (32 : Int32)).toInt64 - (97 : Int64))), .second, .val (.int (1 : Int32)), .val (.long (cv.toInt64 - (48 : Int64))), .second, .unset, .unset] [(.int (XT.cmpL (cv.toInt64 - (48 : Int64)) (10 : Int64)))]))
        by_cases hc51 : (cv.toInt64 - (48 : Int64)) < (10 : Int64)
        · skip
          refine Go.s (fun k => XS.ifNo X0.here hx rfl (hb hby own_d2_51) rfl (XT.ll_ge_f hc51) k) ?_
          show Go p.tables e below P (s₁.setTop (mkF m 54 #[.val (.int cv), .val (.long ((cv ||| (32 : Int32)).toInt64 - (97 : Int64))), .second, .val (.int (1 : Int32)), .val (.long (cv.toInt64 - (48 : Int64))), .second, .unset, .unset] []))
          refine Go.s (fun k => XS.iconst X0.here hx rfl (hb hby own_d2_54) k) ?_
          show Go p.tables e below P (s₁.setTop (mkF m 55 #[.val (.int cv), .val (.long ((cv ||| (32 : Int32)).toInt64 - (97 : Int64))), .second, .val (.int (1 : Int32)), .val (.long (cv.toInt64 - (48 : Int64))), .second, .unset, .unset] [(.int (1 : Int32))]))
          refine Go.s (fun k => XS.goto X0.here hx rfl (pc0 := 55) (pc' := 59) rfl (hb hby own_d2_55) (by decide) (by decide) k) ?_
          show Go p.tables e below P (s₁.setTop (mkF m 59 #[.val (.int cv), .val (.long ((cv ||| (32 : Int32)).toInt64 - (97 : Int64))), .second, .val (.int (1 : Int32)), .val (.long (cv.toInt64 - (48 : Int64))), .second, .unset, .unset] [(.int (1 : Int32))]))
          refine Go.s (fun k => XS.istore X0.here hx rfl (hb hby own_d2_59) rfl (l' := #[.val (.int cv), .val (.long ((cv ||| (32 : Int32)).toInt64 - (97 : Int64))), .second, .val (.int (1 : Int32)), .val (.long (cv.toInt64 - (48 : Int64))), .second, .val (.int (1 : Int32)), .unset]) rfl k) ?_
          show Go p.tables e below P (s₁.setTop (mkF m 61 #[.val (.int cv), .val (.long ((cv ||| (32 : Int32)).toInt64 - (97 : Int64))), .second, .val (.int (1 : Int32)), .val (.long (cv.toInt64 - (48 : Int64))), .second, .val (.int (1 : Int32)), .unset] []))
          refine Go.s (fun k => XS.iloadN X0.here hx rfl (hb hby own_d2_61) rfl k) ?_
          show Go p.tables e below P (s₁.setTop (mkF m 62 #[.val (.int cv), .val (.long ((cv ||| (32 : Int32)).toInt64 - (97 : Int64))), .second, .val (.int (1 : Int32)), .val (.long (cv.toInt64 - (48 : Int64))), .second, .val (.int (1 : Int32)), .unset] [(.int cv)]))
          refine Go.s (fun k => XS.bipush X0.here hx rfl (hb hby own_d2_62) k) ?_
          show Go p.tables e below P (s₁.setTop (mkF m 64 #[.val (.int cv), .val (.long ((cv ||| (32 : Int32)).toInt64 - (97 : Int64))), .second, .val (.int (1 : Int32)), .val (.long (cv.toInt64 - (48 : Int64))), .second, .val (.int (1 : Int32)), .unset] [(.int (95 : Int32)), (.int cv)]))
          by_cases hc64 : cv = (95 : Int32)
          · skip
            refine Go.s (fun k => XS.icmpNo X0.here hx rfl (hb hby own_d2_64) rfl (XT.ii_ne_f hc64) k) ?_
            show Go p.tables e below P (s₁.setTop (mkF m 67 #[.val (.int cv), .val (.long ((cv ||| (32 : Int32)).toInt64 - (97 : Int64))), .second, .val (.int (1 : Int32)), .val (.long (cv.toInt64 - (48 : Int64))), .second, .val (.int (1 : Int32)), .unset] []))
            refine Go.s (fun k => XS.iconst X0.here hx rfl (hb hby own_d2_67) k) ?_
            show Go p.tables e below P (s₁.setTop (mkF m 68 #[.val (.int cv), .val (.long ((cv ||| (32 : Int32)).toInt64 - (97 : Int64))), .second, .val (.int (1 : Int32)), .val (.long (cv.toInt64 - (48 : Int64))), .second, .val (.int (1 : Int32)), .unset] [(.int (1 : Int32))]))
            refine Go.s (fun k => XS.goto X0.here hx rfl (pc0 := 68) (pc' := 72) rfl (hb hby own_d2_68) (by decide) (by decide) k) ?_
            show Go p.tables e below P (s₁.setTop (mkF m 72 #[.val (.int cv), .val (.long ((cv ||| (32 : Int32)).toInt64 - (97 : Int64))), .second, .val (.int (1 : Int32)), .val (.long (cv.toInt64 - (48 : Int64))), .second, .val (.int (1 : Int32)), .unset] [(.int (1 : Int32))]))
            refine Go.s (fun k => XS.istore X0.here hx rfl (hb hby own_d2_72) rfl (l' := #[.val (.int cv), .val (.long ((cv ||| (32 : Int32)).toInt64 - (97 : Int64))), .second, .val (.int (1 : Int32)), .val (.long (cv.toInt64 - (48 : Int64))), .second, .val (.int (1 : Int32)), .val (.int (1 : Int32))]) rfl k) ?_
            show Go p.tables e below P (s₁.setTop (mkF m 74 #[.val (.int cv), .val (.long ((cv ||| (32 : Int32)).toInt64 - (97 : Int64))), .second, .val (.int (1 : Int32)), .val (.long (cv.toInt64 - (48 : Int64))), .second, .val (.int (1 : Int32)), .val (.int (1 : Int32))] []))
            refine Go.s (fun k => XS.iloadN X0.here hx rfl (hb hby own_d2_74) rfl k) ?_
            show Go p.tables e below P (s₁.setTop (mkF m 75 #[.val (.int cv), .val (.long ((cv ||| (32 : Int32)).toInt64 - (97 : Int64))), .second, .val (.int (1 : Int32)), .val (.long (cv.toInt64 - (48 : Int64))), .second, .val (.int (1 : Int32)), .val (.int (1 : Int32))] [(.int (1 : Int32))]))
            refine Go.s (fun k => XS.ifYes X0.here hx rfl (pc0 := 75) (pc' := 88) rfl (hb hby own_d2_75) rfl (XT.i0_ne_t (by decide)) (by decide) (by decide) k) ?_
            show Go p.tables e below P (s₁.setTop (mkF m 88 #[.val (.int cv), .val (.long ((cv ||| (32 : Int32)).toInt64 - (97 : Int64))), .second, .val (.int (1 : Int32)), .val (.long (cv.toInt64 - (48 : Int64))), .second, .val (.int (1 : Int32)), .val (.int (1 : Int32))] []))
            refine Go.s (fun k => XS.iconst X0.here hx rfl (hb hby own_d2_88) k) ?_
            show Go p.tables e below P (s₁.setTop (mkF m 89 #[.val (.int cv), .val (.long ((cv ||| (32 : Int32)).toInt64 - (97 : Int64))), .second, .val (.int (1 : Int32)), .val (.long (cv.toInt64 - (48 : Int64))), .second, .val (.int (1 : Int32)), .val (.int (1 : Int32))] [(.int (1 : Int32))]))
            refine Go.s (fun k => XS.goto X0.here hx rfl (pc0 := 89) (pc' := 93) rfl (hb hby own_d2_89) (by decide) (by decide) k) ?_
            show Go p.tables e below P (s₁.setTop (mkF m 93 #[.val (.int cv), .val (.long ((cv ||| (32 : Int32)).toInt64 - (97 : Int64))), .second, .val (.int (1 : Int32)), .val (.long (cv.toInt64 - (48 : Int64))), .second, .val (.int (1 : Int32)), .val (.int (1 : Int32))] [(.int (1 : Int32))]))
            exact Go.retZ X0 hx hlk hret (by decide) (hb hby own_d2_93) (fun U hU hF => hP U _ _ (by rw [hU, e0]; exact ⟨congrArg some (congrArg Value.int (Eq.symm (by rw [own_f2]; rw [if_neg hc13]; rw [if_pos hc21]; rw [if_neg hc42]; rw [if_pos hc51]; rw [if_pos hc64]))), N0, rfl⟩) ⟨hF.1, hF.2.1, hF.2.2.mono (by decide) (by decide)⟩)
          · skip
            refine Go.s (fun k => XS.icmpYes X0.here hx rfl (pc0 := 64) (pc' := 71) rfl (hb hby own_d2_64) rfl (XT.ii_ne_t hc64) (by decide) (by decide) k) ?_
            show Go p.tables e below P (s₁.setTop (mkF m 71 #[.val (.int cv), .val (.long ((cv ||| (32 : Int32)).toInt64 - (97 : Int64))), .second, .val (.int (1 : Int32)), .val (.long (cv.toInt64 - (48 : Int64))), .second, .val (.int (1 : Int32)), .unset] []))
            refine Go.s (fun k => XS.iconst X0.here hx rfl (hb hby own_d2_71) k) ?_
            show Go p.tables e below P (s₁.setTop (mkF m 72 #[.val (.int cv), .val (.long ((cv ||| (32 : Int32)).toInt64 - (97 : Int64))), .second, .val (.int (1 : Int32)), .val (.long (cv.toInt64 - (48 : Int64))), .second, .val (.int (1 : Int32)), .unset] [(.int (0 : Int32))]))
            refine Go.s (fun k => XS.istore X0.here hx rfl (hb hby own_d2_72) rfl (l' := #[.val (.int cv), .val (.long ((cv ||| (32 : Int32)).toInt64 - (97 : Int64))), .second, .val (.int (1 : Int32)), .val (.long (cv.toInt64 - (48 : Int64))), .second, .val (.int (1 : Int32)), .val (.int (0 : Int32))]) rfl k) ?_
            show Go p.tables e below P (s₁.setTop (mkF m 74 #[.val (.int cv), .val (.long ((cv ||| (32 : Int32)).toInt64 - (97 : Int64))), .second, .val (.int (1 : Int32)), .val (.long (cv.toInt64 - (48 : Int64))), .second, .val (.int (1 : Int32)), .val (.int (0 : Int32))] []))
            refine Go.s (fun k => XS.iloadN X0.here hx rfl (hb hby own_d2_74) rfl k) ?_
            show Go p.tables e below P (s₁.setTop (mkF m 75 #[.val (.int cv), .val (.long ((cv ||| (32 : Int32)).toInt64 - (97 : Int64))), .second, .val (.int (1 : Int32)), .val (.long (cv.toInt64 - (48 : Int64))), .second, .val (.int (1 : Int32)), .val (.int (0 : Int32))] [(.int (1 : Int32))]))
            refine Go.s (fun k => XS.ifYes X0.here hx rfl (pc0 := 75) (pc' := 88) rfl (hb hby own_d2_75) rfl (XT.i0_ne_t (by decide)) (by decide) (by decide) k) ?_
            show Go p.tables e below P (s₁.setTop (mkF m 88 #[.val (.int cv), .val (.long ((cv ||| (32 : Int32)).toInt64 - (97 : Int64))), .second, .val (.int (1 : Int32)), .val (.long (cv.toInt64 - (48 : Int64))), .second, .val (.int (1 : Int32)), .val (.int (0 : Int32))] []))
            refine Go.s (fun k => XS.iconst X0.here hx rfl (hb hby own_d2_88) k) ?_
            show Go p.tables e below P (s₁.setTop (mkF m 89 #[.val (.int cv), .val (.long ((cv ||| (32 : Int32)).toInt64 - (97 : Int64))), .second, .val (.int (1 : Int32)), .val (.long (cv.toInt64 - (48 : Int64))), .second, .val (.int (1 : Int32)), .val (.int (0 : Int32))] [(.int (1 : Int32))]))
            refine Go.s (fun k => XS.goto X0.here hx rfl (pc0 := 89) (pc' := 93) rfl (hb hby own_d2_89) (by decide) (by decide) k) ?_
            show Go p.tables e below P (s₁.setTop (mkF m 93 #[.val (.int cv), .val (.long ((cv ||| (32 : Int32)).toInt64 - (97 : Int64))), .second, .val (.int (1 : Int32)), .val (.long (cv.toInt64 - (48 : Int64))), .second, .val (.int (1 : Int32)), .val (.int (0 : Int32))] [(.int (1 : Int32))]))
            exact Go.retZ X0 hx hlk hret (by decide) (hb hby own_d2_93) (fun U hU hF => hP U _ _ (by rw [hU, e0]; exact ⟨congrArg some (congrArg Value.int (Eq.symm (by rw [own_f2]; rw [if_neg hc13]; rw [if_pos hc21]; rw [if_neg hc42]; rw [if_pos hc51]; rw [if_neg hc64]))), N0, rfl⟩) ⟨hF.1, hF.2.1, hF.2.2.mono (by decide) (by decide)⟩)
        · skip
          refine Go.s (fun k => XS.ifYes X0.here hx rfl (pc0 := 51) (pc' := 58) rfl (hb hby own_d2_51) rfl (XT.ll_ge_t hc51) (by decide) (by decide) k) ?_
          show Go p.tables e below P (s₁.setTop (mkF m 58 #[.val (.int cv), .val (.long ((cv ||| (32 : Int32)).toInt64 - (97 : Int64))), .second, .val (.int (1 : Int32)), .val (.long (cv.toInt64 - (48 : Int64))), .second, .unset, .unset] []))
          refine Go.s (fun k => XS.iconst X0.here hx rfl (hb hby own_d2_58) k) ?_
          show Go p.tables e below P (s₁.setTop (mkF m 59 #[.val (.int cv), .val (.long ((cv ||| (32 : Int32)).toInt64 - (97 : Int64))), .second, .val (.int (1 : Int32)), .val (.long (cv.toInt64 - (48 : Int64))), .second, .unset, .unset] [(.int (0 : Int32))]))
          refine Go.s (fun k => XS.istore X0.here hx rfl (hb hby own_d2_59) rfl (l' := #[.val (.int cv), .val (.long ((cv ||| (32 : Int32)).toInt64 - (97 : Int64))), .second, .val (.int (1 : Int32)), .val (.long (cv.toInt64 - (48 : Int64))), .second, .val (.int (0 : Int32)), .unset]) rfl k) ?_
          show Go p.tables e below P (s₁.setTop (mkF m 61 #[.val (.int cv), .val (.long ((cv ||| (32 : Int32)).toInt64 - (97 : Int64))), .second, .val (.int (1 : Int32)), .val (.long (cv.toInt64 - (48 : Int64))), .second, .val (.int (0 : Int32)), .unset] []))
          refine Go.s (fun k => XS.iloadN X0.here hx rfl (hb hby own_d2_61) rfl k) ?_
          show Go p.tables e below P (s₁.setTop (mkF m 62 #[.val (.int cv), .val (.long ((cv ||| (32 : Int32)).toInt64 - (97 : Int64))), .second, .val (.int (1 : Int32)), .val (.long (cv.toInt64 - (48 : Int64))), .second, .val (.int (0 : Int32)), .unset] [(.int cv)]))
          refine Go.s (fun k => XS.bipush X0.here hx rfl (hb hby own_d2_62) k) ?_
          show Go p.tables e below P (s₁.setTop (mkF m 64 #[.val (.int cv), .val (.long ((cv ||| (32 : Int32)).toInt64 - (97 : Int64))), .second, .val (.int (1 : Int32)), .val (.long (cv.toInt64 - (48 : Int64))), .second, .val (.int (0 : Int32)), .unset] [(.int (95 : Int32)), (.int cv)]))
          by_cases hc64 : cv = (95 : Int32)
          · skip
            refine Go.s (fun k => XS.icmpNo X0.here hx rfl (hb hby own_d2_64) rfl (XT.ii_ne_f hc64) k) ?_
            show Go p.tables e below P (s₁.setTop (mkF m 67 #[.val (.int cv), .val (.long ((cv ||| (32 : Int32)).toInt64 - (97 : Int64))), .second, .val (.int (1 : Int32)), .val (.long (cv.toInt64 - (48 : Int64))), .second, .val (.int (0 : Int32)), .unset] []))
            refine Go.s (fun k => XS.iconst X0.here hx rfl (hb hby own_d2_67) k) ?_
            show Go p.tables e below P (s₁.setTop (mkF m 68 #[.val (.int cv), .val (.long ((cv ||| (32 : Int32)).toInt64 - (97 : Int64))), .second, .val (.int (1 : Int32)), .val (.long (cv.toInt64 - (48 : Int64))), .second, .val (.int (0 : Int32)), .unset] [(.int (1 : Int32))]))
            refine Go.s (fun k => XS.goto X0.here hx rfl (pc0 := 68) (pc' := 72) rfl (hb hby own_d2_68) (by decide) (by decide) k) ?_
            show Go p.tables e below P (s₁.setTop (mkF m 72 #[.val (.int cv), .val (.long ((cv ||| (32 : Int32)).toInt64 - (97 : Int64))), .second, .val (.int (1 : Int32)), .val (.long (cv.toInt64 - (48 : Int64))), .second, .val (.int (0 : Int32)), .unset] [(.int (1 : Int32))]))
            refine Go.s (fun k => XS.istore X0.here hx rfl (hb hby own_d2_72) rfl (l' := #[.val (.int cv), .val (.long ((cv ||| (32 : Int32)).toInt64 - (97 : Int64))), .second, .val (.int (1 : Int32)), .val (.long (cv.toInt64 - (48 : Int64))), .second, .val (.int (0 : Int32)), .val (.int (1 : Int32))]) rfl k) ?_
            show Go p.tables e below P (s₁.setTop (mkF m 74 #[.val (.int cv), .val (.long ((cv ||| (32 : Int32)).toInt64 - (97 : Int64))), .second, .val (.int (1 : Int32)), .val (.long (cv.toInt64 - (48 : Int64))), .second, .val (.int (0 : Int32)), .val (.int (1 : Int32))] []))
            refine Go.s (fun k => XS.iloadN X0.here hx rfl (hb hby own_d2_74) rfl k) ?_
            show Go p.tables e below P (s₁.setTop (mkF m 75 #[.val (.int cv), .val (.long ((cv ||| (32 : Int32)).toInt64 - (97 : Int64))), .second, .val (.int (1 : Int32)), .val (.long (cv.toInt64 - (48 : Int64))), .second, .val (.int (0 : Int32)), .val (.int (1 : Int32))] [(.int (1 : Int32))]))
            refine Go.s (fun k => XS.ifYes X0.here hx rfl (pc0 := 75) (pc' := 88) rfl (hb hby own_d2_75) rfl (XT.i0_ne_t (by decide)) (by decide) (by decide) k) ?_
            show Go p.tables e below P (s₁.setTop (mkF m 88 #[.val (.int cv), .val (.long ((cv ||| (32 : Int32)).toInt64 - (97 : Int64))), .second, .val (.int (1 : Int32)), .val (.long (cv.toInt64 - (48 : Int64))), .second, .val (.int (0 : Int32)), .val (.int (1 : Int32))] []))
            refine Go.s (fun k => XS.iconst X0.here hx rfl (hb hby own_d2_88) k) ?_
            show Go p.tables e below P (s₁.setTop (mkF m 89 #[.val (.int cv), .val (.long ((cv ||| (32 : Int32)).toInt64 - (97 : Int64))), .second, .val (.int (1 : Int32)), .val (.long (cv.toInt64 - (48 : Int64))), .second, .val (.int (0 : Int32)), .val (.int (1 : Int32))] [(.int (1 : Int32))]))
            refine Go.s (fun k => XS.goto X0.here hx rfl (pc0 := 89) (pc' := 93) rfl (hb hby own_d2_89) (by decide) (by decide) k) ?_
            show Go p.tables e below P (s₁.setTop (mkF m 93 #[.val (.int cv), .val (.long ((cv ||| (32 : Int32)).toInt64 - (97 : Int64))), .second, .val (.int (1 : Int32)), .val (.long (cv.toInt64 - (48 : Int64))), .second, .val (.int (0 : Int32)), .val (.int (1 : Int32))] [(.int (1 : Int32))]))
            exact Go.retZ X0 hx hlk hret (by decide) (hb hby own_d2_93) (fun U hU hF => hP U _ _ (by rw [hU, e0]; exact ⟨congrArg some (congrArg Value.int (Eq.symm (by rw [own_f2]; rw [if_neg hc13]; rw [if_pos hc21]; rw [if_neg hc42]; rw [if_neg hc51]; rw [if_pos hc64]))), N0, rfl⟩) ⟨hF.1, hF.2.1, hF.2.2.mono (by decide) (by decide)⟩)
          · skip
            refine Go.s (fun k => XS.icmpYes X0.here hx rfl (pc0 := 64) (pc' := 71) rfl (hb hby own_d2_64) rfl (XT.ii_ne_t hc64) (by decide) (by decide) k) ?_
            show Go p.tables e below P (s₁.setTop (mkF m 71 #[.val (.int cv), .val (.long ((cv ||| (32 : Int32)).toInt64 - (97 : Int64))), .second, .val (.int (1 : Int32)), .val (.long (cv.toInt64 - (48 : Int64))), .second, .val (.int (0 : Int32)), .unset] []))
            refine Go.s (fun k => XS.iconst X0.here hx rfl (hb hby own_d2_71) k) ?_
            show Go p.tables e below P (s₁.setTop (mkF m 72 #[.val (.int cv), .val (.long ((cv ||| (32 : Int32)).toInt64 - (97 : Int64))), .second, .val (.int (1 : Int32)), .val (.long (cv.toInt64 - (48 : Int64))), .second, .val (.int (0 : Int32)), .unset] [(.int (0 : Int32))]))
            refine Go.s (fun k => XS.istore X0.here hx rfl (hb hby own_d2_72) rfl (l' := #[.val (.int cv), .val (.long ((cv ||| (32 : Int32)).toInt64 - (97 : Int64))), .second, .val (.int (1 : Int32)), .val (.long (cv.toInt64 - (48 : Int64))), .second, .val (.int (0 : Int32)), .val (.int (0 : Int32))]) rfl k) ?_
            show Go p.tables e below P (s₁.setTop (mkF m 74 #[.val (.int cv), .val (.long ((cv ||| (32 : Int32)).toInt64 - (97 : Int64))), .second, .val (.int (1 : Int32)), .val (.long (cv.toInt64 - (48 : Int64))), .second, .val (.int (0 : Int32)), .val (.int (0 : Int32))] []))
            refine Go.s (fun k => XS.iloadN X0.here hx rfl (hb hby own_d2_74) rfl k) ?_
            show Go p.tables e below P (s₁.setTop (mkF m 75 #[.val (.int cv), .val (.long ((cv ||| (32 : Int32)).toInt64 - (97 : Int64))), .second, .val (.int (1 : Int32)), .val (.long (cv.toInt64 - (48 : Int64))), .second, .val (.int (0 : Int32)), .val (.int (0 : Int32))] [(.int (1 : Int32))]))
            refine Go.s (fun k => XS.ifYes X0.here hx rfl (pc0 := 75) (pc' := 88) rfl (hb hby own_d2_75) rfl (XT.i0_ne_t (by decide)) (by decide) (by decide) k) ?_
            show Go p.tables e below P (s₁.setTop (mkF m 88 #[.val (.int cv), .val (.long ((cv ||| (32 : Int32)).toInt64 - (97 : Int64))), .second, .val (.int (1 : Int32)), .val (.long (cv.toInt64 - (48 : Int64))), .second, .val (.int (0 : Int32)), .val (.int (0 : Int32))] []))
            refine Go.s (fun k => XS.iconst X0.here hx rfl (hb hby own_d2_88) k) ?_
            show Go p.tables e below P (s₁.setTop (mkF m 89 #[.val (.int cv), .val (.long ((cv ||| (32 : Int32)).toInt64 - (97 : Int64))), .second, .val (.int (1 : Int32)), .val (.long (cv.toInt64 - (48 : Int64))), .second, .val (.int (0 : Int32)), .val (.int (0 : Int32))] [(.int (1 : Int32))]))
            refine Go.s (fun k => XS.goto X0.here hx rfl (pc0 := 89) (pc' := 93) rfl (hb hby own_d2_89) (by decide) (by decide) k) ?_
            show Go p.tables e below P (s₁.setTop (mkF m 93 #[.val (.int cv), .val (.long ((cv ||| (32 : Int32)).toInt64 - (97 : Int64))), .second, .val (.int (1 : Int32)), .val (.long (cv.toInt64 - (48 : Int64))), .second, .val (.int (0 : Int32)), .val (.int (0 : Int32))] [(.int (1 : Int32))]))
            exact Go.retZ X0 hx hlk hret (by decide) (hb hby own_d2_93) (fun U hU hF => hP U _ _ (by rw [hU, e0]; exact ⟨congrArg some (congrArg Value.int (Eq.symm (by rw [own_f2]; rw [if_neg hc13]; rw [if_pos hc21]; rw [if_neg hc42]; rw [if_neg hc51]; rw [if_neg hc64]))), N0, rfl⟩) ⟨hF.1, hF.2.1, hF.2.2.mono (by decide) (by decide)⟩)
    · skip
      refine Go.s (fun k => XS.ifYes X0.here hx rfl (pc0 := 21) (pc' := 28) rfl (hb hby own_d2_21) rfl (XT.ll_ge_t hc21) (by decide) (by decide) k) ?_
      show Go p.tables e below P (s₁.setTop (mkF m 28 #[.val (.int cv), .val (.long ((cv ||| (32 : Int32)).toInt64 - (97 : Int64))), .second, .unset, .unset, .unset, .unset, .unset] []))
      refine Go.s (fun k => XS.iconst X0.here hx rfl (hb hby own_d2_28) k) ?_
      show Go p.tables e below P (s₁.setTop (mkF m 29 #[.val (.int cv), .val (.long ((cv ||| (32 : Int32)).toInt64 - (97 : Int64))), .second, .unset, .unset, .unset, .unset, .unset] [(.int (0 : Int32))]))
      refine Go.s (fun k => XS.istoreN X0.here hx rfl (hb hby own_d2_29) rfl (l' := #[.val (.int cv), .val (.long ((cv ||| (32 : Int32)).toInt64 - (97 : Int64))), .second, .val (.int (0 : Int32)), .unset, .unset, .unset, .unset]) rfl k) ?_
      show Go p.tables e below P (s₁.setTop (mkF m 30 #[.val (.int cv), .val (.long ((cv ||| (32 : Int32)).toInt64 - (97 : Int64))), .second, .val (.int (0 : Int32)), .unset, .unset, .unset, .unset] []))
      refine Go.s (fun k => XS.iloadN X0.here hx rfl (hb hby own_d2_30) rfl k) ?_
      show Go p.tables e below P (s₁.setTop (mkF m 31 #[.val (.int cv), .val (.long ((cv ||| (32 : Int32)).toInt64 - (97 : Int64))), .second, .val (.int (0 : Int32)), .unset, .unset, .unset, .unset] [(.int cv)]))
      refine Go.s (fun k => XT.i2l X0.here hx rfl (hb hby own_d2_31) rfl k) ?_
      show Go p.tables e below P (s₁.setTop (mkF m 32 #[.val (.int cv), .val (.long ((cv ||| (32 : Int32)).toInt64 - (97 : Int64))), .second, .val (.int (0 : Int32)), .unset, .unset, .unset, .unset] [(.long cv.toInt64)]))
      refine Go.s (fun k => X0.ldc2J hx hown (mvT hZ (hw _ (List.mem_of_getElem? (i := 11) rfl))) rfl (hb hby own_d2_32) k) ?_
      show Go p.tables e below P (s₁.setTop (mkF m 35 #[.val (.int cv), .val (.long ((cv ||| (32 : Int32)).toInt64 - (97 : Int64))), .second, .val (.int (0 : Int32)), .unset, .unset, .unset, .unset] [(.long (48 : Int64)), (.long cv.toInt64)]))
      refine Go.s (fun k => XT.lsub X0.here hx rfl (hb hby own_d2_35) rfl k) ?_
      show Go p.tables e below P (s₁.setTop (mkF m 36 #[.val (.int cv), .val (.long ((cv ||| (32 : Int32)).toInt64 - (97 : Int64))), .second, .val (.int (0 : Int32)), .unset, .unset, .unset, .unset] [(.long (cv.toInt64 - (48 : Int64)))]))
      refine Go.s (fun k => XT.lstore X0.here hx rfl (hb hby own_d2_36) rfl (l' := #[.val (.int cv), .val (.long ((cv ||| (32 : Int32)).toInt64 - (97 : Int64))), .second, .val (.int (0 : Int32)), .val (.long (cv.toInt64 - (48 : Int64))), .second, .unset, .unset]) rfl k) ?_
      show Go p.tables e below P (s₁.setTop (mkF m 38 #[.val (.int cv), .val (.long ((cv ||| (32 : Int32)).toInt64 - (97 : Int64))), .second, .val (.int (0 : Int32)), .val (.long (cv.toInt64 - (48 : Int64))), .second, .unset, .unset] []))
      refine Go.s (fun k => XT.lload X0.here hx rfl (hb hby own_d2_38) rfl k) ?_
      show Go p.tables e below P (s₁.setTop (mkF m 40 #[.val (.int cv), .val (.long ((cv ||| (32 : Int32)).toInt64 - (97 : Int64))), .second, .val (.int (0 : Int32)), .val (.long (cv.toInt64 - (48 : Int64))), .second, .unset, .unset] [(.long (cv.toInt64 - (48 : Int64)))]))
      refine Go.s (fun k => XT.lconst X0.here hx rfl (hb hby own_d2_40) k) ?_
      show Go p.tables e below P (s₁.setTop (mkF m 41 #[.val (.int cv), .val (.long ((cv ||| (32 : Int32)).toInt64 - (97 : Int64))), .second, .val (.int (0 : Int32)), .val (.long (cv.toInt64 - (48 : Int64))), .second, .unset, .unset] [(.long (0 : Int64)), (.long (cv.toInt64 - (48 : Int64)))]))
      refine Go.s (fun k => XT.lcmp X0.here hx rfl (hb hby own_d2_41) rfl k) ?_
      show Go p.tables e below P (s₁.setTop (mkF m 42 #[.val (.int cv), .val (.long ((cv ||| (32 : Int32)).toInt64 - (97 : Int64))), .second, .val (.int (0 : Int32)), .val (.long (cv.toInt64 - (48 : Int64))), .second, .unset, .unset] [(.int (XT.cmpL (cv.toInt64 - (48 : Int64)) (0 : Int64)))]))
      by_cases hc42 : (cv.toInt64 - (48 : Int64)) < (0 : Int64)
      · skip
        refine Go.s (fun k => XS.ifYes X0.here hx rfl (pc0 := 42) (pc' := 58) rfl (hb hby own_d2_42) rfl (XT.ll_lt_t hc42) (by decide) (by decide) k) ?_
        show Go p.tables e below P (s₁.setTop (mkF m 58 #[.val (.int cv), .val (.long ((cv ||| (32 : Int32)).toInt64 - (97 : Int64))), .second, .val (.int (0 : Int32)), .val (.long (cv.toInt64 - (48 : Int64))), .second, .unset, .unset] []))
        refine Go.s (fun k => XS.iconst X0.here hx rfl (hb hby own_d2_58) k) ?_
        show Go p.tables e below P (s₁.setTop (mkF m 59 #[.val (.int cv), .val (.long ((cv ||| (32 : Int32)).toInt64 - (97 : Int64))), .second, .val (.int (0 : Int32)), .val (.long (cv.toInt64 - (48 : Int64))), .second, .unset, .unset] [(.int (0 : Int32))]))
        refine Go.s (fun k => XS.istore X0.here hx rfl (hb hby own_d2_59) rfl (l' := #[.val (.int cv), .val (.long ((cv ||| (32 : Int32)).toInt64 - (97 : Int64))), .second, .val (.int (0 : Int32)), .val (.long (cv.toInt64 - (48 : Int64))), .second, .val (.int (0 : Int32)), .unset]) rfl k) ?_
        show Go p.tables e below P (s₁.setTop (mkF m 61 #[.val (.int cv), .val (.long ((cv ||| (32 : Int32)).toInt64 - (97 : Int64))), .second, .val (.int (0 : Int32)), .val (.long (cv.toInt64 - (48 : Int64))), .second, .val (.int (0 : Int32)), .unset] []))
        refine Go.s (fun k => XS.iloadN X0.here hx rfl (hb hby own_d2_61) rfl k) ?_
        show Go p.tables e below P (s₁.setTop (mkF m 62 #[.val (.int cv), .val (.long ((cv ||| (32 : Int32)).toInt64 - (97 : Int64))), .second, .val (.int (0 : Int32)), .val (.long (cv.toInt64 - (48 : Int64))), .second, .val (.int (0 : Int32)), .unset] [(.int cv)]))
        refine Go.s (fun k => XS.bipush X0.here hx rfl (hb hby own_d2_62) k) ?_
        show Go p.tables e below P (s₁.setTop (mkF m 64 #[.val (.int cv), .val (.long ((cv ||| (32 : Int32)).toInt64 - (97 : Int64))), .second, .val (.int (0 : Int32)), .val (.long (cv.toInt64 - (48 : Int64))), .second, .val (.int (0 : Int32)), .unset] [(.int (95 : Int32)), (.int cv)]))
        by_cases hc64 : cv = (95 : Int32)
        · skip
          refine Go.s (fun k => XS.icmpNo X0.here hx rfl (hb hby own_d2_64) rfl (XT.ii_ne_f hc64) k) ?_
          show Go p.tables e below P (s₁.setTop (mkF m 67 #[.val (.int cv), .val (.long ((cv ||| (32 : Int32)).toInt64 - (97 : Int64))), .second, .val (.int (0 : Int32)), .val (.long (cv.toInt64 - (48 : Int64))), .second, .val (.int (0 : Int32)), .unset] []))
          refine Go.s (fun k => XS.iconst X0.here hx rfl (hb hby own_d2_67) k) ?_
          show Go p.tables e below P (s₁.setTop (mkF m 68 #[.val (.int cv), .val (.long ((cv ||| (32 : Int32)).toInt64 - (97 : Int64))), .second, .val (.int (0 : Int32)), .val (.long (cv.toInt64 - (48 : Int64))), .second, .val (.int (0 : Int32)), .unset] [(.int (1 : Int32))]))
          refine Go.s (fun k => XS.goto X0.here hx rfl (pc0 := 68) (pc' := 72) rfl (hb hby own_d2_68) (by decide) (by decide) k) ?_
          show Go p.tables e below P (s₁.setTop (mkF m 72 #[.val (.int cv), .val (.long ((cv ||| (32 : Int32)).toInt64 - (97 : Int64))), .second, .val (.int (0 : Int32)), .val (.long (cv.toInt64 - (48 : Int64))), .second, .val (.int (0 : Int32)), .unset] [(.int (1 : Int32))]))
          refine Go.s (fun k => XS.istore X0.here hx rfl (hb hby own_d2_72) rfl (l' := #[.val (.int cv), .val (.long ((cv ||| (32 : Int32)).toInt64 - (97 : Int64))), .second, .val (.int (0 : Int32)), .val (.long (cv.toInt64 - (48 : Int64))), .second, .val (.int (0 : Int32)), .val (.int (1 : Int32))]) rfl k) ?_
          show Go p.tables e below P (s₁.setTop (mkF m 74 #[.val (.int cv), .val (.long ((cv ||| (32 : Int32)).toInt64 - (97 : Int64))), .second, .val (.int (0 : Int32)), .val (.long (cv.toInt64 - (48 : Int64))), .second, .val (.int (0 : Int32)), .val (.int (1 : Int32))] []))
          refine Go.s (fun k => XS.iloadN X0.here hx rfl (hb hby own_d2_74) rfl k) ?_
          show Go p.tables e below P (s₁.setTop (mkF m 75 #[.val (.int cv), .val (.long ((cv ||| (32 : Int32)).toInt64 - (97 : Int64))), .second, .val (.int (0 : Int32)), .val (.long (cv.toInt64 - (48 : Int64))), .second, .val (.int (0 : Int32)), .val (.int (1 : Int32))] [(.int (0 : Int32))]))
          refine Go.s (fun k => XS.ifNo X0.here hx rfl (hb hby own_d2_75) rfl (XT.i0_ne_f (by decide)) k) ?_
          show Go p.tables e below P (s₁.setTop (mkF m 78 #[.val (.int cv), .val (.long ((cv ||| (32 : Int32)).toInt64 - (97 : Int64))), .second, .val (.int (0 : Int32)), .val (.long (cv.toInt64 - (48 : Int64))), .second, .val (.int (0 : Int32)), .val (.int (1 : Int32))] []))
          refine Go.s (fun k => XS.iload X0.here hx rfl (hb hby own_d2_78) rfl k) ?_
          show Go p.tables e below P (s₁.setTop (mkF m 80 #[.val (.int cv), .val (.long ((cv ||| (32 : Int32)).toInt64 - (97 : Int64))), .second, .val (.int (0 : Int32)), .val (.long (cv.toInt64 - (48 : Int64))), .second, .val (.int (0 : Int32)), .val (.int (1 : Int32))] [(.int (0 : Int32))]))
          refine Go.s (fun k => XS.ifNo X0.here hx rfl (hb hby own_d2_80) rfl (XT.i0_ne_f (by decide)) k) ?_
          show Go p.tables e below P (s₁.setTop (mkF m 83 #[.val (.int cv), .val (.long ((cv ||| (32 : Int32)).toInt64 - (97 : Int64))), .second, .val (.int (0 : Int32)), .val (.long (cv.toInt64 - (48 : Int64))), .second, .val (.int (0 : Int32)), .val (.int (1 : Int32))] []))
          refine Go.s (fun k => XS.iload X0.here hx rfl (hb hby own_d2_83) rfl k) ?_
          show Go p.tables e below P (s₁.setTop (mkF m 85 #[.val (.int cv), .val (.long ((cv ||| (32 : Int32)).toInt64 - (97 : Int64))), .second, .val (.int (0 : Int32)), .val (.long (cv.toInt64 - (48 : Int64))), .second, .val (.int (0 : Int32)), .val (.int (1 : Int32))] [(.int (1 : Int32))]))
          refine Go.s (fun k => XS.ifNo X0.here hx rfl (hb hby own_d2_85) rfl (XT.i0_eq_f (by decide)) k) ?_
          show Go p.tables e below P (s₁.setTop (mkF m 88 #[.val (.int cv), .val (.long ((cv ||| (32 : Int32)).toInt64 - (97 : Int64))), .second, .val (.int (0 : Int32)), .val (.long (cv.toInt64 - (48 : Int64))), .second, .val (.int (0 : Int32)), .val (.int (1 : Int32))] []))
          refine Go.s (fun k => XS.iconst X0.here hx rfl (hb hby own_d2_88) k) ?_
          show Go p.tables e below P (s₁.setTop (mkF m 89 #[.val (.int cv), .val (.long ((cv ||| (32 : Int32)).toInt64 - (97 : Int64))), .second, .val (.int (0 : Int32)), .val (.long (cv.toInt64 - (48 : Int64))), .second, .val (.int (0 : Int32)), .val (.int (1 : Int32))] [(.int (1 : Int32))]))
          refine Go.s (fun k => XS.goto X0.here hx rfl (pc0 := 89) (pc' := 93) rfl (hb hby own_d2_89) (by decide) (by decide) k) ?_
          show Go p.tables e below P (s₁.setTop (mkF m 93 #[.val (.int cv), .val (.long ((cv ||| (32 : Int32)).toInt64 - (97 : Int64))), .second, .val (.int (0 : Int32)), .val (.long (cv.toInt64 - (48 : Int64))), .second, .val (.int (0 : Int32)), .val (.int (1 : Int32))] [(.int (1 : Int32))]))
          exact Go.retZ X0 hx hlk hret (by decide) (hb hby own_d2_93) (fun U hU hF => hP U _ _ (by rw [hU, e0]; exact ⟨congrArg some (congrArg Value.int (Eq.symm (by rw [own_f2]; rw [if_neg hc13]; rw [if_neg hc21]; rw [if_pos hc42]; rw [if_pos hc64]))), N0, rfl⟩) ⟨hF.1, hF.2.1, hF.2.2.mono (by decide) (by decide)⟩)
        · skip
          refine Go.s (fun k => XS.icmpYes X0.here hx rfl (pc0 := 64) (pc' := 71) rfl (hb hby own_d2_64) rfl (XT.ii_ne_t hc64) (by decide) (by decide) k) ?_
          show Go p.tables e below P (s₁.setTop (mkF m 71 #[.val (.int cv), .val (.long ((cv ||| (32 : Int32)).toInt64 - (97 : Int64))), .second, .val (.int (0 : Int32)), .val (.long (cv.toInt64 - (48 : Int64))), .second, .val (.int (0 : Int32)), .unset] []))
          refine Go.s (fun k => XS.iconst X0.here hx rfl (hb hby own_d2_71) k) ?_
          show Go p.tables e below P (s₁.setTop (mkF m 72 #[.val (.int cv), .val (.long ((cv ||| (32 : Int32)).toInt64 - (97 : Int64))), .second, .val (.int (0 : Int32)), .val (.long (cv.toInt64 - (48 : Int64))), .second, .val (.int (0 : Int32)), .unset] [(.int (0 : Int32))]))
          refine Go.s (fun k => XS.istore X0.here hx rfl (hb hby own_d2_72) rfl (l' := #[.val (.int cv), .val (.long ((cv ||| (32 : Int32)).toInt64 - (97 : Int64))), .second, .val (.int (0 : Int32)), .val (.long (cv.toInt64 - (48 : Int64))), .second, .val (.int (0 : Int32)), .val (.int (0 : Int32))]) rfl k) ?_
          show Go p.tables e below P (s₁.setTop (mkF m 74 #[.val (.int cv), .val (.long ((cv ||| (32 : Int32)).toInt64 - (97 : Int64))), .second, .val (.int (0 : Int32)), .val (.long (cv.toInt64 - (48 : Int64))), .second, .val (.int (0 : Int32)), .val (.int (0 : Int32))] []))
          refine Go.s (fun k => XS.iloadN X0.here hx rfl (hb hby own_d2_74) rfl k) ?_
          show Go p.tables e below P (s₁.setTop (mkF m 75 #[.val (.int cv), .val (.long ((cv ||| (32 : Int32)).toInt64 - (97 : Int64))), .second, .val (.int (0 : Int32)), .val (.long (cv.toInt64 - (48 : Int64))), .second, .val (.int (0 : Int32)), .val (.int (0 : Int32))] [(.int (0 : Int32))]))
          refine Go.s (fun k => XS.ifNo X0.here hx rfl (hb hby own_d2_75) rfl (XT.i0_ne_f (by decide)) k) ?_
          show Go p.tables e below P (s₁.setTop (mkF m 78 #[.val (.int cv), .val (.long ((cv ||| (32 : Int32)).toInt64 - (97 : Int64))), .second, .val (.int (0 : Int32)), .val (.long (cv.toInt64 - (48 : Int64))), .second, .val (.int (0 : Int32)), .val (.int (0 : Int32))] []))
          refine Go.s (fun k => XS.iload X0.here hx rfl (hb hby own_d2_78) rfl k) ?_
          show Go p.tables e below P (s₁.setTop (mkF m 80 #[.val (.int cv), .val (.long ((cv ||| (32 : Int32)).toInt64 - (97 : Int64))), .second, .val (.int (0 : Int32)), .val (.long (cv.toInt64 - (48 : Int64))), .second, .val (.int (0 : Int32)), .val (.int (0 : Int32))] [(.int (0 : Int32))]))
          refine Go.s (fun k => XS.ifNo X0.here hx rfl (hb hby own_d2_80) rfl (XT.i0_ne_f (by decide)) k) ?_
          show Go p.tables e below P (s₁.setTop (mkF m 83 #[.val (.int cv), .val (.long ((cv ||| (32 : Int32)).toInt64 - (97 : Int64))), .second, .val (.int (0 : Int32)), .val (.long (cv.toInt64 - (48 : Int64))), .second, .val (.int (0 : Int32)), .val (.int (0 : Int32))] []))
          refine Go.s (fun k => XS.iload X0.here hx rfl (hb hby own_d2_83) rfl k) ?_
          show Go p.tables e below P (s₁.setTop (mkF m 85 #[.val (.int cv), .val (.long ((cv ||| (32 : Int32)).toInt64 - (97 : Int64))), .second, .val (.int (0 : Int32)), .val (.long (cv.toInt64 - (48 : Int64))), .second, .val (.int (0 : Int32)), .val (.int (0 : Int32))] [(.int (0 : Int32))]))
          refine Go.s (fun k => XS.ifYes X0.here hx rfl (pc0 := 85) (pc' := 92) rfl (hb hby own_d2_85) rfl (XT.i0_eq_t (by decide)) (by decide) (by decide) k) ?_
          show Go p.tables e below P (s₁.setTop (mkF m 92 #[.val (.int cv), .val (.long ((cv ||| (32 : Int32)).toInt64 - (97 : Int64))), .second, .val (.int (0 : Int32)), .val (.long (cv.toInt64 - (48 : Int64))), .second, .val (.int (0 : Int32)), .val (.int (0 : Int32))] []))
          refine Go.s (fun k => XS.iconst X0.here hx rfl (hb hby own_d2_92) k) ?_
          show Go p.tables e below P (s₁.setTop (mkF m 93 #[.val (.int cv), .val (.long ((cv ||| (32 : Int32)).toInt64 - (97 : Int64))), .second, .val (.int (0 : Int32)), .val (.long (cv.toInt64 - (48 : Int64))), .second, .val (.int (0 : Int32)), .val (.int (0 : Int32))] [(.int (0 : Int32))]))
          exact Go.retZ X0 hx hlk hret (by decide) (hb hby own_d2_93) (fun U hU hF => hP U _ _ (by rw [hU, e0]; exact ⟨congrArg some (congrArg Value.int (Eq.symm (by rw [own_f2]; rw [if_neg hc13]; rw [if_neg hc21]; rw [if_pos hc42]; rw [if_neg hc64]))), N0, rfl⟩) ⟨hF.1, hF.2.1, hF.2.2.mono (by decide) (by decide)⟩)
      · skip
        refine Go.s (fun k => XS.ifNo X0.here hx rfl (hb hby own_d2_42) rfl (XT.ll_lt_f hc42) k) ?_
        show Go p.tables e below P (s₁.setTop (mkF m 45 #[.val (.int cv), .val (.long ((cv ||| (32 : Int32)).toInt64 - (97 : Int64))), .second, .val (.int (0 : Int32)), .val (.long (cv.toInt64 - (48 : Int64))), .second, .unset, .unset] []))
        refine Go.s (fun k => XT.lload X0.here hx rfl (hb hby own_d2_45) rfl k) ?_
        show Go p.tables e below P (s₁.setTop (mkF m 47 #[.val (.int cv), .val (.long ((cv ||| (32 : Int32)).toInt64 - (97 : Int64))), .second, .val (.int (0 : Int32)), .val (.long (cv.toInt64 - (48 : Int64))), .second, .unset, .unset] [(.long (cv.toInt64 - (48 : Int64)))]))
        refine Go.s (fun k => X0.ldc2J hx hown (mvT hZ (hw _ (List.mem_of_getElem? (i := 13) rfl))) rfl (hb hby own_d2_47) k) ?_
        show Go p.tables e below P (s₁.setTop (mkF m 50 #[.val (.int cv), .val (.long ((cv ||| (32 : Int32)).toInt64 - (97 : Int64))), .second, .val (.int (0 : Int32)), .val (.long (cv.toInt64 - (48 : Int64))), .second, .unset, .unset] [(.long (10 : Int64)), (.long (cv.toInt64 - (48 : Int64)))]))
        refine Go.s (fun k => XT.lcmp X0.here hx rfl (hb hby own_d2_50) rfl k) ?_
        show Go p.tables e below P (s₁.setTop (mkF m 51 #[.val (.int cv), .val (.long ((cv ||| (32 : Int32)).toInt64 - (97 : Int64))), .second, .val (.int (0 : Int32)), .val (.long (cv.toInt64 - (48 : Int64))), .second, .unset, .unset] [(.int (XT.cmpL (cv.toInt64 - (48 : Int64)) (10 : Int64)))]))
        by_cases hc51 : (cv.toInt64 - (48 : Int64)) < (10 : Int64)
        · skip
          refine Go.s (fun k => XS.ifNo X0.here hx rfl (hb hby own_d2_51) rfl (XT.ll_ge_f hc51) k) ?_
          show Go p.tables e below P (s₁.setTop (mkF m 54 #[.val (.int cv), .val (.long ((cv ||| (32 : Int32)).toInt64 - (97 : Int64))), .second, .val (.int (0 : Int32)), .val (.long (cv.toInt64 - (48 : Int64))), .second, .unset, .unset] []))
          refine Go.s (fun k => XS.iconst X0.here hx rfl (hb hby own_d2_54) k) ?_
          show Go p.tables e below P (s₁.setTop (mkF m 55 #[.val (.int cv), .val (.long ((cv ||| (32 : Int32)).toInt64 - (97 : Int64))), .second, .val (.int (0 : Int32)), .val (.long (cv.toInt64 - (48 : Int64))), .second, .unset, .unset] [(.int (1 : Int32))]))
          refine Go.s (fun k => XS.goto X0.here hx rfl (pc0 := 55) (pc' := 59) rfl (hb hby own_d2_55) (by decide) (by decide) k) ?_
          show Go p.tables e below P (s₁.setTop (mkF m 59 #[.val (.int cv), .val (.long ((cv ||| (32 : Int32)).toInt64 - (97 : Int64))), .second, .val (.int (0 : Int32)), .val (.long (cv.toInt64 - (48 : Int64))), .second, .unset, .unset] [(.int (1 : Int32))]))
          refine Go.s (fun k => XS.istore X0.here hx rfl (hb hby own_d2_59) rfl (l' := #[.val (.int cv), .val (.long ((cv ||| (32 : Int32)).toInt64 - (97 : Int64))), .second, .val (.int (0 : Int32)), .val (.long (cv.toInt64 - (48 : Int64))), .second, .val (.int (1 : Int32)), .unset]) rfl k) ?_
          show Go p.tables e below P (s₁.setTop (mkF m 61 #[.val (.int cv), .val (.long ((cv ||| (32 : Int32)).toInt64 - (97 : Int64))), .second, .val (.int (0 : Int32)), .val (.long (cv.toInt64 - (48 : Int64))), .second, .val (.int (1 : Int32)), .unset] []))
          refine Go.s (fun k => XS.iloadN X0.here hx rfl (hb hby own_d2_61) rfl k) ?_
          show Go p.tables e below P (s₁.setTop (mkF m 62 #[.val (.int cv), .val (.long ((cv ||| (32 : Int32)).toInt64 - (97 : Int64))), .second, .val (.int (0 : Int32)), .val (.long (cv.toInt64 - (48 : Int64))), .second, .val (.int (1 : Int32)), .unset] [(.int cv)]))
          refine Go.s (fun k => XS.bipush X0.here hx rfl (hb hby own_d2_62) k) ?_
          show Go p.tables e below P (s₁.setTop (mkF m 64 #[.val (.int cv), .val (.long ((cv ||| (32 : Int32)).toInt64 - (97 : Int64))), .second, .val (.int (0 : Int32)), .val (.long (cv.toInt64 - (48 : Int64))), .second, .val (.int (1 : Int32)), .unset] [(.int (95 : Int32)), (.int cv)]))
          by_cases hc64 : cv = (95 : Int32)
          · skip
            refine Go.s (fun k => XS.icmpNo X0.here hx rfl (hb hby own_d2_64) rfl (XT.ii_ne_f hc64) k) ?_
            show Go p.tables e below P (s₁.setTop (mkF m 67 #[.val (.int cv), .val (.long ((cv ||| (32 : Int32)).toInt64 - (97 : Int64))), .second, .val (.int (0 : Int32)), .val (.long (cv.toInt64 - (48 : Int64))), .second, .val (.int (1 : Int32)), .unset] []))
            refine Go.s (fun k => XS.iconst X0.here hx rfl (hb hby own_d2_67) k) ?_
            show Go p.tables e below P (s₁.setTop (mkF m 68 #[.val (.int cv), .val (.long ((cv ||| (32 : Int32)).toInt64 - (97 : Int64))), .second, .val (.int (0 : Int32)), .val (.long (cv.toInt64 - (48 : Int64))), .second, .val (.int (1 : Int32)), .unset] [(.int (1 : Int32))]))
            refine Go.s (fun k => XS.goto X0.here hx rfl (pc0 := 68) (pc' := 72) rfl (hb hby own_d2_68) (by decide) (by decide) k) ?_
            show Go p.tables e below P (s₁.setTop (mkF m 72 #[.val (.int cv), .val (.long ((cv ||| (32 : Int32)).toInt64 - (97 : Int64))), .second, .val (.int (0 : Int32)), .val (.long (cv.toInt64 - (48 : Int64))), .second, .val (.int (1 : Int32)), .unset] [(.int (1 : Int32))]))
            refine Go.s (fun k => XS.istore X0.here hx rfl (hb hby own_d2_72) rfl (l' := #[.val (.int cv), .val (.long ((cv ||| (32 : Int32)).toInt64 - (97 : Int64))), .second, .val (.int (0 : Int32)), .val (.long (cv.toInt64 - (48 : Int64))), .second, .val (.int (1 : Int32)), .val (.int (1 : Int32))]) rfl k) ?_
            show Go p.tables e below P (s₁.setTop (mkF m 74 #[.val (.int cv), .val (.long ((cv ||| (32 : Int32)).toInt64 - (97 : Int64))), .second, .val (.int (0 : Int32)), .val (.long (cv.toInt64 - (48 : Int64))), .second, .val (.int (1 : Int32)), .val (.int (1 : Int32))] []))
            refine Go.s (fun k => XS.iloadN X0.here hx rfl (hb hby own_d2_74) rfl k) ?_
            show Go p.tables e below P (s₁.setTop (mkF m 75 #[.val (.int cv), .val (.long ((cv ||| (32 : Int32)).toInt64 - (97 : Int64))), .second, .val (.int (0 : Int32)), .val (.long (cv.toInt64 - (48 : Int64))), .second, .val (.int (1 : Int32)), .val (.int (1 : Int32))] [(.int (0 : Int32))]))
            refine Go.s (fun k => XS.ifNo X0.here hx rfl (hb hby own_d2_75) rfl (XT.i0_ne_f (by decide)) k) ?_
            show Go p.tables e below P (s₁.setTop (mkF m 78 #[.val (.int cv), .val (.long ((cv ||| (32 : Int32)).toInt64 - (97 : Int64))), .second, .val (.int (0 : Int32)), .val (.long (cv.toInt64 - (48 : Int64))), .second, .val (.int (1 : Int32)), .val (.int (1 : Int32))] []))
            refine Go.s (fun k => XS.iload X0.here hx rfl (hb hby own_d2_78) rfl k) ?_
            show Go p.tables e below P (s₁.setTop (mkF m 80 #[.val (.int cv), .val (.long ((cv ||| (32 : Int32)).toInt64 - (97 : Int64))), .second, .val (.int (0 : Int32)), .val (.long (cv.toInt64 - (48 : Int64))), .second, .val (.int (1 : Int32)), .val (.int (1 : Int32))] [(.int (1 : Int32))]))
            refine Go.s (fun k => XS.ifYes X0.here hx rfl (pc0 := 80) (pc' := 88) rfl (hb hby own_d2_80) rfl (XT.i0_ne_t (by decide)) (by decide) (by decide) k) ?_
            show Go p.tables e below P (s₁.setTop (mkF m 88 #[.val (.int cv), .val (.long ((cv ||| (32 : Int32)).toInt64 - (97 : Int64))), .second, .val (.int (0 : Int32)), .val (.long (cv.toInt64 - (48 : Int64))), .second, .val (.int (1 : Int32)), .val (.int (1 : Int32))] []))
            refine Go.s (fun k => XS.iconst X0.here hx rfl (hb hby own_d2_88) k) ?_
            show Go p.tables e below P (s₁.setTop (mkF m 89 #[.val (.int cv), .val (.long ((cv ||| (32 : Int32)).toInt64 - (97 : Int64))), .second, .val (.int (0 : Int32)), .val (.long (cv.toInt64 - (48 : Int64))), .second, .val (.int (1 : Int32)), .val (.int (1 : Int32))] [(.int (1 : Int32))]))
            refine Go.s (fun k => XS.goto X0.here hx rfl (pc0 := 89) (pc' := 93) rfl (hb hby own_d2_89) (by decide) (by decide) k) ?_
            show Go p.tables e below P (s₁.setTop (mkF m 93 #[.val (.int cv), .val (.long ((cv ||| (32 : Int32)).toInt64 - (97 : Int64))), .second, .val (.int (0 : Int32)), .val (.long (cv.toInt64 - (48 : Int64))), .second, .val (.int (1 : Int32)), .val (.int (1 : Int32))] [(.int (1 : Int32))]))
            exact Go.retZ X0 hx hlk hret (by decide) (hb hby own_d2_93) (fun U hU hF => hP U _ _ (by rw [hU, e0]; exact ⟨congrArg some (congrArg Value.int (Eq.symm (by rw [own_f2]; rw [if_neg hc13]; rw [if_neg hc21]; rw [if_neg hc42]; rw [if_pos hc51]; rw [if_pos hc64]))), N0, rfl⟩) ⟨hF.1, hF.2.1, hF.2.2.mono (by decide) (by decide)⟩)
          · skip
            refine Go.s (fun k => XS.icmpYes X0.here hx rfl (pc0 := 64) (pc' := 71) rfl (hb hby own_d2_64) rfl (XT.ii_ne_t hc64) (by decide) (by decide) k) ?_
            show Go p.tables e below P (s₁.setTop (mkF m 71 #[.val (.int cv), .val (.long ((cv ||| (32 : Int32)).toInt64 - (97 : Int64))), .second, .val (.int (0 : Int32)), .val (.long (cv.toInt64 - (48 : Int64))), .second, .val (.int (1 : Int32)), .unset] []))
            refine Go.s (fun k => XS.iconst X0.here hx rfl (hb hby own_d2_71) k) ?_
            show Go p.tables e below P (s₁.setTop (mkF m 72 #[.val (.int cv), .val (.long ((cv ||| (32 : Int32)).toInt64 - (97 : Int64))), .second, .val (.int (0 : Int32)), .val (.long (cv.toInt64 - (48 : Int64))), .second, .val (.int (1 : Int32)), .unset] [(.int (0 : Int32))]))
            refine Go.s (fun k => XS.istore X0.here hx rfl (hb hby own_d2_72) rfl (l' := #[.val (.int cv), .val (.long ((cv ||| (32 : Int32)).toInt64 - (97 : Int64))), .second, .val (.int (0 : Int32)), .val (.long (cv.toInt64 - (48 : Int64))), .second, .val (.int (1 : Int32)), .val (.int (0 : Int32))]) rfl k) ?_
            show Go p.tables e below P (s₁.setTop (mkF m 74 #[.val (.int cv), .val (.long ((cv ||| (32 : Int32)).toInt64 - (97 : Int64))), .second, .val (.int (0 : Int32)), .val (.long (cv.toInt64 - (48 : Int64))), .second, .val (.int (1 : Int32)), .val (.int (0 : Int32))] []))
            refine Go.s (fun k => XS.iloadN X0.here hx rfl (hb hby own_d2_74) rfl k) ?_
            show Go p.tables e below P (s₁.setTop (mkF m 75 #[.val (.int cv), .val (.long ((cv ||| (32 : Int32)).toInt64 - (97 : Int64))), .second, .val (.int (0 : Int32)), .val (.long (cv.toInt64 - (48 : Int64))), .second, .val (.int (1 : Int32)), .val (.int (0 : Int32))] [(.int (0 : Int32))]))
            refine Go.s (fun k => XS.ifNo X0.here hx rfl (hb hby own_d2_75) rfl (XT.i0_ne_f (by decide)) k) ?_
            show Go p.tables e below P (s₁.setTop (mkF m 78 #[.val (.int cv), .val (.long ((cv ||| (32 : Int32)).toInt64 - (97 : Int64))), .second, .val (.int (0 : Int32)), .val (.long (cv.toInt64 - (48 : Int64))), .second, .val (.int (1 : Int32)), .val (.int (0 : Int32))] []))
            refine Go.s (fun k => XS.iload X0.here hx rfl (hb hby own_d2_78) rfl k) ?_
            show Go p.tables e below P (s₁.setTop (mkF m 80 #[.val (.int cv), .val (.long ((cv ||| (32 : Int32)).toInt64 - (97 : Int64))), .second, .val (.int (0 : Int32)), .val (.long (cv.toInt64 - (48 : Int64))), .second, .val (.int (1 : Int32)), .val (.int (0 : Int32))] [(.int (1 : Int32))]))
            refine Go.s (fun k => XS.ifYes X0.here hx rfl (pc0 := 80) (pc' := 88) rfl (hb hby own_d2_80) rfl (XT.i0_ne_t (by decide)) (by decide) (by decide) k) ?_
            show Go p.tables e below P (s₁.setTop (mkF m 88 #[.val (.int cv), .val (.long ((cv ||| (32 : Int32)).toInt64 - (97 : Int64))), .second, .val (.int (0 : Int32)), .val (.long (cv.toInt64 - (48 : Int64))), .second, .val (.int (1 : Int32)), .val (.int (0 : Int32))] []))
            refine Go.s (fun k => XS.iconst X0.here hx rfl (hb hby own_d2_88) k) ?_
            show Go p.tables e below P (s₁.setTop (mkF m 89 #[.val (.int cv), .val (.long ((cv ||| (32 : Int32)).toInt64 - (97 : Int64))), .second, .val (.int (0 : Int32)), .val (.long (cv.toInt64 - (48 : Int64))), .second, .val (.int (1 : Int32)), .val (.int (0 : Int32))] [(.int (1 : Int32))]))
            refine Go.s (fun k => XS.goto X0.here hx rfl (pc0 := 89) (pc' := 93) rfl (hb hby own_d2_89) (by decide) (by decide) k) ?_
            show Go p.tables e below P (s₁.setTop (mkF m 93 #[.val (.int cv), .val (.long ((cv ||| (32 : Int32)).toInt64 - (97 : Int64))), .second, .val (.int (0 : Int32)), .val (.long (cv.toInt64 - (48 : Int64))), .second, .val (.int (1 : Int32)), .val (.int (0 : Int32))] [(.int (1 : Int32))]))
            exact Go.retZ X0 hx hlk hret (by decide) (hb hby own_d2_93) (fun U hU hF => hP U _ _ (by rw [hU, e0]; exact ⟨congrArg some (congrArg Value.int (Eq.symm (by rw [own_f2]; rw [if_neg hc13]; rw [if_neg hc21]; rw [if_neg hc42]; rw [if_pos hc51]; rw [if_neg hc64]))), N0, rfl⟩) ⟨hF.1, hF.2.1, hF.2.2.mono (by decide) (by decide)⟩)
        · skip
          refine Go.s (fun k => XS.ifYes X0.here hx rfl (pc0 := 51) (pc' := 58) rfl (hb hby own_d2_51) rfl (XT.ll_ge_t hc51) (by decide) (by decide) k) ?_
          show Go p.tables e below P (s₁.setTop (mkF m 58 #[.val (.int cv), .val (.long ((cv ||| (32 : Int32)).toInt64 - (97 : Int64))), .second, .val (.int (0 : Int32)), .val (.long (cv.toInt64 - (48 : Int64))), .second, .unset, .unset] []))
          refine Go.s (fun k => XS.iconst X0.here hx rfl (hb hby own_d2_58) k) ?_
          show Go p.tables e below P (s₁.setTop (mkF m 59 #[.val (.int cv), .val (.long ((cv ||| (32 : Int32)).toInt64 - (97 : Int64))), .second, .val (.int (0 : Int32)), .val (.long (cv.toInt64 - (48 : Int64))), .second, .unset, .unset] [(.int (0 : Int32))]))
          refine Go.s (fun k => XS.istore X0.here hx rfl (hb hby own_d2_59) rfl (l' := #[.val (.int cv), .val (.long ((cv ||| (32 : Int32)).toInt64 - (97 : Int64))), .second, .val (.int (0 : Int32)), .val (.long (cv.toInt64 - (48 : Int64))), .second, .val (.int (0 : Int32)), .unset]) rfl k) ?_
          show Go p.tables e below P (s₁.setTop (mkF m 61 #[.val (.int cv), .val (.long ((cv ||| (32 : Int32)).toInt64 - (97 : Int64))), .second, .val (.int (0 : Int32)), .val (.long (cv.toInt64 - (48 : Int64))), .second, .val (.int (0 : Int32)), .unset] []))
          refine Go.s (fun k => XS.iloadN X0.here hx rfl (hb hby own_d2_61) rfl k) ?_
          show Go p.tables e below P (s₁.setTop (mkF m 62 #[.val (.int cv), .val (.long ((cv ||| (32 : Int32)).toInt64 - (97 : Int64))), .second, .val (.int (0 : Int32)), .val (.long (cv.toInt64 - (48 : Int64))), .second, .val (.int (0 : Int32)), .unset] [(.int cv)]))
          refine Go.s (fun k => XS.bipush X0.here hx rfl (hb hby own_d2_62) k) ?_
          show Go p.tables e below P (s₁.setTop (mkF m 64 #[.val (.int cv), .val (.long ((cv ||| (32 : Int32)).toInt64 - (97 : Int64))), .second, .val (.int (0 : Int32)), .val (.long (cv.toInt64 - (48 : Int64))), .second, .val (.int (0 : Int32)), .unset] [(.int (95 : Int32)), (.int cv)]))
          by_cases hc64 : cv = (95 : Int32)
          · skip
            refine Go.s (fun k => XS.icmpNo X0.here hx rfl (hb hby own_d2_64) rfl (XT.ii_ne_f hc64) k) ?_
            show Go p.tables e below P (s₁.setTop (mkF m 67 #[.val (.int cv), .val (.long ((cv ||| (32 : Int32)).toInt64 - (97 : Int64))), .second, .val (.int (0 : Int32)), .val (.long (cv.toInt64 - (48 : Int64))), .second, .val (.int (0 : Int32)), .unset] []))
            refine Go.s (fun k => XS.iconst X0.here hx rfl (hb hby own_d2_67) k) ?_
            show Go p.tables e below P (s₁.setTop (mkF m 68 #[.val (.int cv), .val (.long ((cv ||| (32 : Int32)).toInt64 - (97 : Int64))), .second, .val (.int (0 : Int32)), .val (.long (cv.toInt64 - (48 : Int64))), .second, .val (.int (0 : Int32)), .unset] [(.int (1 : Int32))]))
            refine Go.s (fun k => XS.goto X0.here hx rfl (pc0 := 68) (pc' := 72) rfl (hb hby own_d2_68) (by decide) (by decide) k) ?_
            show Go p.tables e below P (s₁.setTop (mkF m 72 #[.val (.int cv), .val (.long ((cv ||| (32 : Int32)).toInt64 - (97 : Int64))), .second, .val (.int (0 : Int32)), .val (.long (cv.toInt64 - (48 : Int64))), .second, .val (.int (0 : Int32)), .unset] [(.int (1 : Int32))]))
            refine Go.s (fun k => XS.istore X0.here hx rfl (hb hby own_d2_72) rfl (l' := #[.val (.int cv), .val (.long ((cv ||| (32 : Int32)).toInt64 - (97 : Int64))), .second, .val (.int (0 : Int32)), .val (.long (cv.toInt64 - (48 : Int64))), .second, .val (.int (0 : Int32)), .val (.int (1 : Int32))]) rfl k) ?_
            show Go p.tables e below P (s₁.setTop (mkF m 74 #[.val (.int cv), .val (.long ((cv ||| (32 : Int32)).toInt64 - (97 : Int64))), .second, .val (.int (0 : Int32)), .val (.long (cv.toInt64 - (48 : Int64))), .second, .val (.int (0 : Int32)), .val (.int (1 : Int32))] []))
            refine Go.s (fun k => XS.iloadN X0.here hx rfl (hb hby own_d2_74) rfl k) ?_
            show Go p.tables e below P (s₁.setTop (mkF m 75 #[.val (.int cv), .val (.long ((cv ||| (32 : Int32)).toInt64 - (97 : Int64))), .second, .val (.int (0 : Int32)), .val (.long (cv.toInt64 - (48 : Int64))), .second, .val (.int (0 : Int32)), .val (.int (1 : Int32))] [(.int (0 : Int32))]))
            refine Go.s (fun k => XS.ifNo X0.here hx rfl (hb hby own_d2_75) rfl (XT.i0_ne_f (by decide)) k) ?_
            show Go p.tables e below P (s₁.setTop (mkF m 78 #[.val (.int cv), .val (.long ((cv ||| (32 : Int32)).toInt64 - (97 : Int64))), .second, .val (.int (0 : Int32)), .val (.long (cv.toInt64 - (48 : Int64))), .second, .val (.int (0 : Int32)), .val (.int (1 : Int32))] []))
            refine Go.s (fun k => XS.iload X0.here hx rfl (hb hby own_d2_78) rfl k) ?_
            show Go p.tables e below P (s₁.setTop (mkF m 80 #[.val (.int cv), .val (.long ((cv ||| (32 : Int32)).toInt64 - (97 : Int64))), .second, .val (.int (0 : Int32)), .val (.long (cv.toInt64 - (48 : Int64))), .second, .val (.int (0 : Int32)), .val (.int (1 : Int32))] [(.int (0 : Int32))]))
            refine Go.s (fun k => XS.ifNo X0.here hx rfl (hb hby own_d2_80) rfl (XT.i0_ne_f (by decide)) k) ?_
            show Go p.tables e below P (s₁.setTop (mkF m 83 #[.val (.int cv), .val (.long ((cv ||| (32 : Int32)).toInt64 - (97 : Int64))), .second, .val (.int (0 : Int32)), .val (.long (cv.toInt64 - (48 : Int64))), .second, .val (.int (0 : Int32)), .val (.int (1 : Int32))] []))
            refine Go.s (fun k => XS.iload X0.here hx rfl (hb hby own_d2_83) rfl k) ?_
            show Go p.tables e below P (s₁.setTop (mkF m 85 #[.val (.int cv), .val (.long ((cv ||| (32 : Int32)).toInt64 - (97 : Int64))), .second, .val (.int (0 : Int32)), .val (.long (cv.toInt64 - (48 : Int64))), .second, .val (.int (0 : Int32)), .val (.int (1 : Int32))] [(.int (1 : Int32))]))
            refine Go.s (fun k => XS.ifNo X0.here hx rfl (hb hby own_d2_85) rfl (XT.i0_eq_f (by decide)) k) ?_
            show Go p.tables e below P (s₁.setTop (mkF m 88 #[.val (.int cv), .val (.long ((cv ||| (32 : Int32)).toInt64 - (97 : Int64))), .second, .val (.int (0 : Int32)), .val (.long (cv.toInt64 - (48 : Int64))), .second, .val (.int (0 : Int32)), .val (.int (1 : Int32))] []))
            refine Go.s (fun k => XS.iconst X0.here hx rfl (hb hby own_d2_88) k) ?_
            show Go p.tables e below P (s₁.setTop (mkF m 89 #[.val (.int cv), .val (.long ((cv ||| (32 : Int32)).toInt64 - (97 : Int64))), .second, .val (.int (0 : Int32)), .val (.long (cv.toInt64 - (48 : Int64))), .second, .val (.int (0 : Int32)), .val (.int (1 : Int32))] [(.int (1 : Int32))]))
            refine Go.s (fun k => XS.goto X0.here hx rfl (pc0 := 89) (pc' := 93) rfl (hb hby own_d2_89) (by decide) (by decide) k) ?_
            show Go p.tables e below P (s₁.setTop (mkF m 93 #[.val (.int cv), .val (.long ((cv ||| (32 : Int32)).toInt64 - (97 : Int64))), .second, .val (.int (0 : Int32)), .val (.long (cv.toInt64 - (48 : Int64))), .second, .val (.int (0 : Int32)), .val (.int (1 : Int32))] [(.int (1 : Int32))]))
            exact Go.retZ X0 hx hlk hret (by decide) (hb hby own_d2_93) (fun U hU hF => hP U _ _ (by rw [hU, e0]; exact ⟨congrArg some (congrArg Value.int (Eq.symm (by rw [own_f2]; rw [if_neg hc13]; rw [if_neg hc21]; rw [if_neg hc42]; rw [if_neg hc51]; rw [if_pos hc64]))), N0, rfl⟩) ⟨hF.1, hF.2.1, hF.2.2.mono (by decide) (by decide)⟩)
          · skip
            refine Go.s (fun k => XS.icmpYes X0.here hx rfl (pc0 := 64) (pc' := 71) rfl (hb hby own_d2_64) rfl (XT.ii_ne_t hc64) (by decide) (by decide) k) ?_
            show Go p.tables e below P (s₁.setTop (mkF m 71 #[.val (.int cv), .val (.long ((cv ||| (32 : Int32)).toInt64 - (97 : Int64))), .second, .val (.int (0 : Int32)), .val (.long (cv.toInt64 - (48 : Int64))), .second, .val (.int (0 : Int32)), .unset] []))
            refine Go.s (fun k => XS.iconst X0.here hx rfl (hb hby own_d2_71) k) ?_
            show Go p.tables e below P (s₁.setTop (mkF m 72 #[.val (.int cv), .val (.long ((cv ||| (32 : Int32)).toInt64 - (97 : Int64))), .second, .val (.int (0 : Int32)), .val (.long (cv.toInt64 - (48 : Int64))), .second, .val (.int (0 : Int32)), .unset] [(.int (0 : Int32))]))
            refine Go.s (fun k => XS.istore X0.here hx rfl (hb hby own_d2_72) rfl (l' := #[.val (.int cv), .val (.long ((cv ||| (32 : Int32)).toInt64 - (97 : Int64))), .second, .val (.int (0 : Int32)), .val (.long (cv.toInt64 - (48 : Int64))), .second, .val (.int (0 : Int32)), .val (.int (0 : Int32))]) rfl k) ?_
            show Go p.tables e below P (s₁.setTop (mkF m 74 #[.val (.int cv), .val (.long ((cv ||| (32 : Int32)).toInt64 - (97 : Int64))), .second, .val (.int (0 : Int32)), .val (.long (cv.toInt64 - (48 : Int64))), .second, .val (.int (0 : Int32)), .val (.int (0 : Int32))] []))
            refine Go.s (fun k => XS.iloadN X0.here hx rfl (hb hby own_d2_74) rfl k) ?_
            show Go p.tables e below P (s₁.setTop (mkF m 75 #[.val (.int cv), .val (.long ((cv ||| (32 : Int32)).toInt64 - (97 : Int64))), .second, .val (.int (0 : Int32)), .val (.long (cv.toInt64 - (48 : Int64))), .second, .val (.int (0 : Int32)), .val (.int (0 : Int32))] [(.int (0 : Int32))]))
            refine Go.s (fun k => XS.ifNo X0.here hx rfl (hb hby own_d2_75) rfl (XT.i0_ne_f (by decide)) k) ?_
            show Go p.tables e below P (s₁.setTop (mkF m 78 #[.val (.int cv), .val (.long ((cv ||| (32 : Int32)).toInt64 - (97 : Int64))), .second, .val (.int (0 : Int32)), .val (.long (cv.toInt64 - (48 : Int64))), .second, .val (.int (0 : Int32)), .val (.int (0 : Int32))] []))
            refine Go.s (fun k => XS.iload X0.here hx rfl (hb hby own_d2_78) rfl k) ?_
            show Go p.tables e below P (s₁.setTop (mkF m 80 #[.val (.int cv), .val (.long ((cv ||| (32 : Int32)).toInt64 - (97 : Int64))), .second, .val (.int (0 : Int32)), .val (.long (cv.toInt64 - (48 : Int64))), .second, .val (.int (0 : Int32)), .val (.int (0 : Int32))] [(.int (0 : Int32))]))
            refine Go.s (fun k => XS.ifNo X0.here hx rfl (hb hby own_d2_80) rfl (XT.i0_ne_f (by decide)) k) ?_
            show Go p.tables e below P (s₁.setTop (mkF m 83 #[.val (.int cv), .val (.long ((cv ||| (32 : Int32)).toInt64 - (97 : Int64))), .second, .val (.int (0 : Int32)), .val (.long (cv.toInt64 - (48 : Int64))), .second, .val (.int (0 : Int32)), .val (.int (0 : Int32))] []))
            refine Go.s (fun k => XS.iload X0.here hx rfl (hb hby own_d2_83) rfl k) ?_
            show Go p.tables e below P (s₁.setTop (mkF m 85 #[.val (.int cv), .val (.long ((cv ||| (32 : Int32)).toInt64 - (97 : Int64))), .second, .val (.int (0 : Int32)), .val (.long (cv.toInt64 - (48 : Int64))), .second, .val (.int (0 : Int32)), .val (.int (0 : Int32))] [(.int (0 : Int32))]))
            refine Go.s (fun k => XS.ifYes X0.here hx rfl (pc0 := 85) (pc' := 92) rfl (hb hby own_d2_85) rfl (XT.i0_eq_t (by decide)) (by decide) (by decide) k) ?_
            show Go p.tables e below P (s₁.setTop (mkF m 92 #[.val (.int cv), .val (.long ((cv ||| (32 : Int32)).toInt64 - (97 : Int64))), .second, .val (.int (0 : Int32)), .val (.long (cv.toInt64 - (48 : Int64))), .second, .val (.int (0 : Int32)), .val (.int (0 : Int32))] []))
            refine Go.s (fun k => XS.iconst X0.here hx rfl (hb hby own_d2_92) k) ?_
            show Go p.tables e below P (s₁.setTop (mkF m 93 #[.val (.int cv), .val (.long ((cv ||| (32 : Int32)).toInt64 - (97 : Int64))), .second, .val (.int (0 : Int32)), .val (.long (cv.toInt64 - (48 : Int64))), .second, .val (.int (0 : Int32)), .val (.int (0 : Int32))] [(.int (0 : Int32))]))
            exact Go.retZ X0 hx hlk hret (by decide) (hb hby own_d2_93) (fun U hU hF => hP U _ _ (by rw [hU, e0]; exact ⟨congrArg some (congrArg Value.int (Eq.symm (by rw [own_f2]; rw [if_neg hc13]; rw [if_neg hc21]; rw [if_neg hc42]; rw [if_neg hc51]; rw [if_neg hc64]))), N0, rfl⟩) ⟨hF.1, hF.2.1, hF.2.2.mono (by decide) (by decide)⟩)
theorem own_or64 : ∀ w : Fin 64, w.val ||| 32 = if w.val < 32 then w.val + 32 else w.val := by decide +kernel
theorem own_or (v : Nat) : v ||| 32 = 64 * (v / 64) + (if v % 64 < 32 then v % 64 + 32 else v % 64) := by
  have a := Nat.or_div_two_pow (a := v) (b := 32) (n := 6)
  have b := Nat.or_mod_two_pow (a := v) (b := 32) (n := 6)
  have c := own_or64 ⟨v % 64, Nat.mod_lt _ (by decide)⟩
  have d := Nat.div_add_mod (v ||| 32) 64
  have e : (2 : Nat) ^ 6 = 64 := rfl
  rw [e] at a b
  have f : 32 / 64 = 0 := rfl
  have g : 32 % 64 = 32 := rfl
  rw [f, Nat.or_zero] at a
  rw [g] at b
  simp only at c
  rw [← d, a, b, c]
theorem own_orI (c : Int32) : (97 ≤ (c ||| 32).toInt ∧ (c ||| 32).toInt < 123) ↔ ((97 ≤ c.toInt ∧ c.toInt < 123) ∨ (65 ≤ c.toInt ∧ c.toInt < 91)) := by
  have h1 : (c ||| 32).toInt = (c ||| 32).toBitVec.toInt := rfl
  have h2 : c.toInt = c.toBitVec.toInt := rfl
  have h3 : (c ||| 32).toBitVec.toNat = c.toBitVec.toNat ||| 32 := by
    rw [Int32.toBitVec_or, BitVec.toNat_or]; rfl
  have h4 := own_or c.toBitVec.toNat
  rw [← h3] at h4
  have h5 := c.toBitVec.isLt
  rw [h1, h2, BitVec.toInt_eq_toNat_cond, BitVec.toInt_eq_toNat_cond]
  generalize (c ||| 32).toBitVec.toNat = u at *
  generalize c.toBitVec.toNat = v at *
  split at h4 <;> split <;> split <;> omega
def own_P (c : Int) : Prop := (97 ≤ c ∧ c < 123) ∨ (65 ≤ c ∧ c < 91) ∨ (48 ≤ c ∧ c < 58) ∨ c = 95
theorem own_s1 (c : Int32) : (own_P c.toInt → own_f1 c = 1) ∧ (¬ own_P c.toInt → own_f1 c = 0) := by
  have k1 : (97 : Int32).toInt = 97 := rfl
  have k2 : (122 : Int32).toInt = 122 := rfl
  have k3 : (65 : Int32).toInt = 65 := rfl
  have k4 : (90 : Int32).toInt = 90 := rfl
  have k5 : (48 : Int32).toInt = 48 := rfl
  have k6 : (57 : Int32).toInt = 57 := rfl
  have k7 : (95 : Int32).toInt = 95 := rfl
  simp only [own_P, own_f1, Int32.lt_iff_toInt_lt, ← Int32.toInt_inj, k1, k2, k3, k4, k5, k6, k7]
  refine ⟨fun h => ?_, fun h => ?_⟩ <;> repeat' split
  all_goals first | rfl | omega
theorem own_s2 (c : Int32) : (own_P c.toInt → own_f2 c = 1) ∧ (¬ own_P c.toInt → own_f2 c = 0) := by
  have k0 : (0 : Int64).toInt = 0 := rfl
  have k1 : (97 : Int64).toInt = 97 := rfl
  have k2 : (26 : Int64).toInt = 26 := rfl
  have k3 : (48 : Int64).toInt = 48 := rfl
  have k4 : (10 : Int64).toInt = 10 := rfl
  have k7 : (95 : Int32).toInt = 95 := rfl
  have a1 := (c ||| 32).toInt_lt; have a2 := (c ||| 32).le_toInt
  have b1 := c.toInt_lt; have b2 := c.le_toInt
  have e1 : ((c ||| 32).toInt64 - 97).toInt = (c ||| 32).toInt - 97 := by
    have q := Jvm.Kit.i64_of_i32 (c ||| 32)
    rw [Jvm.Kit.i64_sub (by omega) (by omega), q, k1]
  have e2 : (c.toInt64 - 48).toInt = c.toInt - 48 := by
    have q := Jvm.Kit.i64_of_i32 c
    rw [Jvm.Kit.i64_sub (by omega) (by omega), q, k3]
  have o := own_orI c
  simp only [own_P, own_f2, Int64.lt_iff_toInt_lt, ← Int32.toInt_inj, e1, e2, k0, k2, k4, k7]
  generalize (c ||| 32).toInt = u at *
  refine ⟨fun h => ?_, fun h => ?_⟩ <;> repeat' split
  all_goals first | rfl | omega
theorem own_eq (c : Int32) : own_f1 c = own_f2 c := by
  have a := own_s1 c
  have b := own_s2 c
  by_cases h : own_P c.toInt
  · rw [a.1 h, b.1 h]
  · rw [a.2 h, b.2 h]
theorem own_ix (k j : Int32) (h : j = (k &&& 2147483647) % 7) : ¬ j < 0 ∧ j < 7 := by
  have e := Jvm.Kit.i32_mask k 2147483647 (k := 31) (by decide) (by decide)
  have c1 : (7 : Int32).toInt = 7 := rfl
  have c0 : (0 : Int32).toInt = 0 := rfl
  rw [Int32.lt_iff_toInt_lt, Int32.lt_iff_toInt_lt, h, Jvm.Kit.i32_rem_nonneg (by omega), c1, c0]; omega
theorem own_el (v0 v1 v2 v3 v4 v5 v6 : Int32) : ∀ i : Nat, ∃ w : Int32, ([.int v0, .int v1, .int v2, .int v3, .int v4, .int v5, .int v6] : List Value).getD i (.int (0 : Int32)) = .int w
  | 0 => ⟨_, rfl⟩ | 1 => ⟨_, rfl⟩ | 2 => ⟨_, rfl⟩ | 3 => ⟨_, rfl⟩ | 4 => ⟨_, rfl⟩ | 5 => ⟨_, rfl⟩ | 6 => ⟨_, rfl⟩ | _ + 7 => ⟨_, rfl⟩
theorem own_ef0 (m : MethodId) (p0 : Int32) (p1 : Int32) : entryFrame m #[(.int p0), (.int p1)] maxLocals = mkF m 0 #[.val (.int p0), .val (.int p1), .unset, .unset, .unset, .unset] [] := by
  (first | (simp [entryFrame, mkF, argsToLocals, Value.category, maxLocals]; done) | rfl)
theorem own_pd_0 : parseMethodDescriptor "(I)Z" = some ⟨[.int], some .boolean⟩ := by decide +kernel
set_option maxRecDepth 65536 in
set_option maxHeartbeats 40000000 in
theorem own_rm0 (l : Launch) (Z : State) (a0 : Array Value) (hw : ∀ d ∈ tables_1, d.before a0 Z = true) (ws : List Jvm.Cond) (p0 : Int32) (p1 : Int32) (h0 : Heap) (n0 : Nat) (Z0 : n0 ≤ h0.size)  :
    Con l Z x code maxLocals ret ws room_1 #[(.int p0), (.int p1)] h0 (fun v h L => v = some (.int 1) ∧ Fr n0 L) := by
  refine Con.intro (plainFor_of_name own_pn_1) ?_
  intro p e s m below meth c s₁ P hx hby hml hown hnm hret hlk hZ X0 e0 hP
  have N0 := Fr.nil n0
  have hml : c.maxLocals = 6 := hml
  have hown : s.vm.findClass "com/example/impart/impart/NamesIsStartPinLaw" = some m.cls := hown
  have hret : meth.sig.returnType = some .boolean := hret
  refine Go.cast (own_ef0 m p0 p1) ?_
  show Go p.tables e below P (s₁.setTop (mkF m 0 #[.val (.int p0), .val (.int p1), .unset, .unset, .unset, .unset] []))
  refine Go.s (fun k => XS.bipush X0.here hx rfl (hb hby at_0) k) ?_
  show Go p.tables e below P (s₁.setTop (mkF m 2 #[.val (.int p0), .val (.int p1), .unset, .unset, .unset, .unset] [(.int (7 : Int32))]))
  obtain ⟨T1, H1, k1, X1, e1, E1, A1, st1⟩ := newP X0 hx hZ (hw _ (List.mem_of_getElem? (i := 0) rfl)) e0 (g := (mkF m 2 #[.val (.int p0), .val (.int p1), .unset, .unset, .unset, .unset] [(.int (7 : Int32))])) rfl (hb hby at_2) rfl (by decide) (cap := 7) (by decide) (by decide) (by decide) (by decide)
  refine Go.s (fun {t} => st1 t) ?_
  obtain ⟨b1, g1⟩ : ∃ z, z = h0.size := ⟨_, rfl⟩
  rw [← g1] at A1
  rw [← g1]
  have G_b1 : n0 ≤ b1 := Nat.le_trans Z0 (Nat.le_of_eq g1.symm)
  have Zs1 := Nat.le_trans Z0 E1.1
  have V1 : Arv Z H1 b1 k1 .int (7 : Int32) [(.int (0 : Int32)), (.int (0 : Int32)), (.int (0 : Int32)), (.int (0 : Int32)), (.int (0 : Int32)), (.int (0 : Int32)), (.int (0 : Int32))] (.int (0 : Int32)) := (Arv.new A1 (by decide)).pad (pad_rep [] (.int (0 : Int32)) 7)
  show Go p.tables e below P (T1.setTop (mkF m 4 #[.val (.int p0), .val (.int p1), .unset, .unset, .unset, .unset] [(.ref b1)]))
  refine Go.s (fun k => XS.dup X1.here hx rfl (hb hby at_4) rfl rfl k) ?_
  show Go p.tables e below P (T1.setTop (mkF m 5 #[.val (.int p0), .val (.int p1), .unset, .unset, .unset, .unset] [(.ref b1), (.ref b1)]))
  refine Go.s (fun k => XS.iconst X1.here hx rfl (hb hby at_5) k) ?_
  show Go p.tables e below P (T1.setTop (mkF m 6 #[.val (.int p0), .val (.int p1), .unset, .unset, .unset, .unset] [(.int (0 : Int32)), (.ref b1), (.ref b1)]))
  refine Go.s (fun k => XS.bipush X1.here hx rfl (hb hby at_6) k) ?_
  show Go p.tables e below P (T1.setTop (mkF m 8 #[.val (.int p0), .val (.int p1), .unset, .unset, .unset, .unset] [(.int (48 : Int32)), (.int (0 : Int32)), (.ref b1), (.ref b1)]))
  obtain ⟨cl2, Ar2, q2, Sz2, Ng2, Ha2, Ft2⟩ := id V1
  have hin2 := inb_of (j := (0 : Int32)) Sz2 ⟨by decide, by decide⟩
  obtain ⟨T2, H2, X2, e2, W2, st2⟩ := stI X1 hx hZ e1 Ar2 (j := (0 : Int32)) hin2 (g := (mkF m 8 #[.val (.int p0), .val (.int p1), .unset, .unset, .unset, .unset] [(.int (48 : Int32)), (.int (0 : Int32)), (.ref b1), (.ref b1)])) rfl rfl (hb hby at_8)
  refine Go.s (fun {t} => st2 t) ?_
  have V2 : Arv Z H2 b1 k1 .int (7 : Int32) [(.int (48 : Int32)), (.int (0 : Int32)), (.int (0 : Int32)), (.int (0 : Int32)), (.int (0 : Int32)), (.int (0 : Int32)), (.int (0 : Int32))] (.int (0 : Int32)) := Arv.set Ar2 q2 Sz2 Ng2 Ha2 Ft2 rfl W2 0 rfl (Nat.le_of_ble_eq_true rfl)
  have N2 := Fr.snoc X2 N0 G_b1
  have Zs2 := Nat.le_trans Zs1 (Keep.of_wr W2).1
  show Go p.tables e below P (T2.setTop (mkF m 9 #[.val (.int p0), .val (.int p1), .unset, .unset, .unset, .unset] [(.ref b1)]))
  refine Go.s (fun k => XS.dup X2.here hx rfl (hb hby at_9) rfl rfl k) ?_
  show Go p.tables e below P (T2.setTop (mkF m 10 #[.val (.int p0), .val (.int p1), .unset, .unset, .unset, .unset] [(.ref b1), (.ref b1)]))
  refine Go.s (fun k => XS.iconst X2.here hx rfl (hb hby at_10) k) ?_
  show Go p.tables e below P (T2.setTop (mkF m 11 #[.val (.int p0), .val (.int p1), .unset, .unset, .unset, .unset] [(.int (1 : Int32)), (.ref b1), (.ref b1)]))
  refine Go.s (fun k => XS.bipush X2.here hx rfl (hb hby at_11) k) ?_
  show Go p.tables e below P (T2.setTop (mkF m 13 #[.val (.int p0), .val (.int p1), .unset, .unset, .unset, .unset] [(.int (57 : Int32)), (.int (1 : Int32)), (.ref b1), (.ref b1)]))
  obtain ⟨cl4, Ar4, q4, Sz4, Ng4, Ha4, Ft4⟩ := id V2
  have hin4 := inb_of (j := (1 : Int32)) Sz4 ⟨by decide, by decide⟩
  obtain ⟨T4, H4, X4, e4, W4, st4⟩ := stI X2 hx hZ e2 Ar4 (j := (1 : Int32)) hin4 (g := (mkF m 13 #[.val (.int p0), .val (.int p1), .unset, .unset, .unset, .unset] [(.int (57 : Int32)), (.int (1 : Int32)), (.ref b1), (.ref b1)])) rfl rfl (hb hby at_13)
  refine Go.s (fun {t} => st4 t) ?_
  have V4 : Arv Z H4 b1 k1 .int (7 : Int32) [(.int (48 : Int32)), (.int (57 : Int32)), (.int (0 : Int32)), (.int (0 : Int32)), (.int (0 : Int32)), (.int (0 : Int32)), (.int (0 : Int32))] (.int (0 : Int32)) := Arv.set Ar4 q4 Sz4 Ng4 Ha4 Ft4 rfl W4 1 rfl (Nat.le_of_ble_eq_true rfl)
  have N4 := Fr.snoc X4 N2 G_b1
  have Zs4 := Nat.le_trans Zs2 (Keep.of_wr W4).1
  show Go p.tables e below P (T4.setTop (mkF m 14 #[.val (.int p0), .val (.int p1), .unset, .unset, .unset, .unset] [(.ref b1)]))
  refine Go.s (fun k => XS.dup X4.here hx rfl (hb hby at_14) rfl rfl k) ?_
  show Go p.tables e below P (T4.setTop (mkF m 15 #[.val (.int p0), .val (.int p1), .unset, .unset, .unset, .unset] [(.ref b1), (.ref b1)]))
  refine Go.s (fun k => XS.iconst X4.here hx rfl (hb hby at_15) k) ?_
  show Go p.tables e below P (T4.setTop (mkF m 16 #[.val (.int p0), .val (.int p1), .unset, .unset, .unset, .unset] [(.int (2 : Int32)), (.ref b1), (.ref b1)]))
  refine Go.s (fun k => XS.bipush X4.here hx rfl (hb hby at_16) k) ?_
  show Go p.tables e below P (T4.setTop (mkF m 18 #[.val (.int p0), .val (.int p1), .unset, .unset, .unset, .unset] [(.int (65 : Int32)), (.int (2 : Int32)), (.ref b1), (.ref b1)]))
  obtain ⟨cl6, Ar6, q6, Sz6, Ng6, Ha6, Ft6⟩ := id V4
  have hin6 := inb_of (j := (2 : Int32)) Sz6 ⟨by decide, by decide⟩
  obtain ⟨T6, H6, X6, e6, W6, st6⟩ := stI X4 hx hZ e4 Ar6 (j := (2 : Int32)) hin6 (g := (mkF m 18 #[.val (.int p0), .val (.int p1), .unset, .unset, .unset, .unset] [(.int (65 : Int32)), (.int (2 : Int32)), (.ref b1), (.ref b1)])) rfl rfl (hb hby at_18)
  refine Go.s (fun {t} => st6 t) ?_
  have V6 : Arv Z H6 b1 k1 .int (7 : Int32) [(.int (48 : Int32)), (.int (57 : Int32)), (.int (65 : Int32)), (.int (0 : Int32)), (.int (0 : Int32)), (.int (0 : Int32)), (.int (0 : Int32))] (.int (0 : Int32)) := Arv.set Ar6 q6 Sz6 Ng6 Ha6 Ft6 rfl W6 2 rfl (Nat.le_of_ble_eq_true rfl)
  have N6 := Fr.snoc X6 N4 G_b1
  have Zs6 := Nat.le_trans Zs4 (Keep.of_wr W6).1
  show Go p.tables e below P (T6.setTop (mkF m 19 #[.val (.int p0), .val (.int p1), .unset, .unset, .unset, .unset] [(.ref b1)]))
  refine Go.s (fun k => XS.dup X6.here hx rfl (hb hby at_19) rfl rfl k) ?_
  show Go p.tables e below P (T6.setTop (mkF m 20 #[.val (.int p0), .val (.int p1), .unset, .unset, .unset, .unset] [(.ref b1), (.ref b1)]))
  refine Go.s (fun k => XS.iconst X6.here hx rfl (hb hby at_20) k) ?_
  show Go p.tables e below P (T6.setTop (mkF m 21 #[.val (.int p0), .val (.int p1), .unset, .unset, .unset, .unset] [(.int (3 : Int32)), (.ref b1), (.ref b1)]))
  refine Go.s (fun k => XS.bipush X6.here hx rfl (hb hby at_21) k) ?_
  show Go p.tables e below P (T6.setTop (mkF m 23 #[.val (.int p0), .val (.int p1), .unset, .unset, .unset, .unset] [(.int (90 : Int32)), (.int (3 : Int32)), (.ref b1), (.ref b1)]))
  obtain ⟨cl8, Ar8, q8, Sz8, Ng8, Ha8, Ft8⟩ := id V6
  have hin8 := inb_of (j := (3 : Int32)) Sz8 ⟨by decide, by decide⟩
  obtain ⟨T8, H8, X8, e8, W8, st8⟩ := stI X6 hx hZ e6 Ar8 (j := (3 : Int32)) hin8 (g := (mkF m 23 #[.val (.int p0), .val (.int p1), .unset, .unset, .unset, .unset] [(.int (90 : Int32)), (.int (3 : Int32)), (.ref b1), (.ref b1)])) rfl rfl (hb hby at_23)
  refine Go.s (fun {t} => st8 t) ?_
  have V8 : Arv Z H8 b1 k1 .int (7 : Int32) [(.int (48 : Int32)), (.int (57 : Int32)), (.int (65 : Int32)), (.int (90 : Int32)), (.int (0 : Int32)), (.int (0 : Int32)), (.int (0 : Int32))] (.int (0 : Int32)) := Arv.set Ar8 q8 Sz8 Ng8 Ha8 Ft8 rfl W8 3 rfl (Nat.le_of_ble_eq_true rfl)
  have N8 := Fr.snoc X8 N6 G_b1
  have Zs8 := Nat.le_trans Zs6 (Keep.of_wr W8).1
  show Go p.tables e below P (T8.setTop (mkF m 24 #[.val (.int p0), .val (.int p1), .unset, .unset, .unset, .unset] [(.ref b1)]))
  refine Go.s (fun k => XS.dup X8.here hx rfl (hb hby at_24) rfl rfl k) ?_
  show Go p.tables e below P (T8.setTop (mkF m 25 #[.val (.int p0), .val (.int p1), .unset, .unset, .unset, .unset] [(.ref b1), (.ref b1)]))
  refine Go.s (fun k => XS.iconst X8.here hx rfl (hb hby at_25) k) ?_
  show Go p.tables e below P (T8.setTop (mkF m 26 #[.val (.int p0), .val (.int p1), .unset, .unset, .unset, .unset] [(.int (4 : Int32)), (.ref b1), (.ref b1)]))
  refine Go.s (fun k => XS.bipush X8.here hx rfl (hb hby at_26) k) ?_
  show Go p.tables e below P (T8.setTop (mkF m 28 #[.val (.int p0), .val (.int p1), .unset, .unset, .unset, .unset] [(.int (95 : Int32)), (.int (4 : Int32)), (.ref b1), (.ref b1)]))
  obtain ⟨cl10, Ar10, q10, Sz10, Ng10, Ha10, Ft10⟩ := id V8
  have hin10 := inb_of (j := (4 : Int32)) Sz10 ⟨by decide, by decide⟩
  obtain ⟨T10, H10, X10, e10, W10, st10⟩ := stI X8 hx hZ e8 Ar10 (j := (4 : Int32)) hin10 (g := (mkF m 28 #[.val (.int p0), .val (.int p1), .unset, .unset, .unset, .unset] [(.int (95 : Int32)), (.int (4 : Int32)), (.ref b1), (.ref b1)])) rfl rfl (hb hby at_28)
  refine Go.s (fun {t} => st10 t) ?_
  have V10 : Arv Z H10 b1 k1 .int (7 : Int32) [(.int (48 : Int32)), (.int (57 : Int32)), (.int (65 : Int32)), (.int (90 : Int32)), (.int (95 : Int32)), (.int (0 : Int32)), (.int (0 : Int32))] (.int (0 : Int32)) := Arv.set Ar10 q10 Sz10 Ng10 Ha10 Ft10 rfl W10 4 rfl (Nat.le_of_ble_eq_true rfl)
  have N10 := Fr.snoc X10 N8 G_b1
  have Zs10 := Nat.le_trans Zs8 (Keep.of_wr W10).1
  show Go p.tables e below P (T10.setTop (mkF m 29 #[.val (.int p0), .val (.int p1), .unset, .unset, .unset, .unset] [(.ref b1)]))
  refine Go.s (fun k => XS.dup X10.here hx rfl (hb hby at_29) rfl rfl k) ?_
  show Go p.tables e below P (T10.setTop (mkF m 30 #[.val (.int p0), .val (.int p1), .unset, .unset, .unset, .unset] [(.ref b1), (.ref b1)]))
  refine Go.s (fun k => XS.iconst X10.here hx rfl (hb hby at_30) k) ?_
  show Go p.tables e below P (T10.setTop (mkF m 31 #[.val (.int p0), .val (.int p1), .unset, .unset, .unset, .unset] [(.int (5 : Int32)), (.ref b1), (.ref b1)]))
  refine Go.s (fun k => XS.bipush X10.here hx rfl (hb hby at_31) k) ?_
  show Go p.tables e below P (T10.setTop (mkF m 33 #[.val (.int p0), .val (.int p1), .unset, .unset, .unset, .unset] [(.int (97 : Int32)), (.int (5 : Int32)), (.ref b1), (.ref b1)]))
  obtain ⟨cl12, Ar12, q12, Sz12, Ng12, Ha12, Ft12⟩ := id V10
  have hin12 := inb_of (j := (5 : Int32)) Sz12 ⟨by decide, by decide⟩
  obtain ⟨T12, H12, X12, e12, W12, st12⟩ := stI X10 hx hZ e10 Ar12 (j := (5 : Int32)) hin12 (g := (mkF m 33 #[.val (.int p0), .val (.int p1), .unset, .unset, .unset, .unset] [(.int (97 : Int32)), (.int (5 : Int32)), (.ref b1), (.ref b1)])) rfl rfl (hb hby at_33)
  refine Go.s (fun {t} => st12 t) ?_
  have V12 : Arv Z H12 b1 k1 .int (7 : Int32) [(.int (48 : Int32)), (.int (57 : Int32)), (.int (65 : Int32)), (.int (90 : Int32)), (.int (95 : Int32)), (.int (97 : Int32)), (.int (0 : Int32))] (.int (0 : Int32)) := Arv.set Ar12 q12 Sz12 Ng12 Ha12 Ft12 rfl W12 5 rfl (Nat.le_of_ble_eq_true rfl)
  have N12 := Fr.snoc X12 N10 G_b1
  have Zs12 := Nat.le_trans Zs10 (Keep.of_wr W12).1
  show Go p.tables e below P (T12.setTop (mkF m 34 #[.val (.int p0), .val (.int p1), .unset, .unset, .unset, .unset] [(.ref b1)]))
  refine Go.s (fun k => XS.dup X12.here hx rfl (hb hby at_34) rfl rfl k) ?_
  show Go p.tables e below P (T12.setTop (mkF m 35 #[.val (.int p0), .val (.int p1), .unset, .unset, .unset, .unset] [(.ref b1), (.ref b1)]))
  refine Go.s (fun k => XS.bipush X12.here hx rfl (hb hby at_35) k) ?_
  show Go p.tables e below P (T12.setTop (mkF m 37 #[.val (.int p0), .val (.int p1), .unset, .unset, .unset, .unset] [(.int (6 : Int32)), (.ref b1), (.ref b1)]))
  refine Go.s (fun k => XS.bipush X12.here hx rfl (hb hby at_37) k) ?_
  show Go p.tables e below P (T12.setTop (mkF m 39 #[.val (.int p0), .val (.int p1), .unset, .unset, .unset, .unset] [(.int (122 : Int32)), (.int (6 : Int32)), (.ref b1), (.ref b1)]))
  obtain ⟨cl14, Ar14, q14, Sz14, Ng14, Ha14, Ft14⟩ := id V12
  have hin14 := inb_of (j := (6 : Int32)) Sz14 ⟨by decide, by decide⟩
  obtain ⟨T14, H14, X14, e14, W14, st14⟩ := stI X12 hx hZ e12 Ar14 (j := (6 : Int32)) hin14 (g := (mkF m 39 #[.val (.int p0), .val (.int p1), .unset, .unset, .unset, .unset] [(.int (122 : Int32)), (.int (6 : Int32)), (.ref b1), (.ref b1)])) rfl rfl (hb hby at_39)
  refine Go.s (fun {t} => st14 t) ?_
  have V14 : Arv Z H14 b1 k1 .int (7 : Int32) [(.int (48 : Int32)), (.int (57 : Int32)), (.int (65 : Int32)), (.int (90 : Int32)), (.int (95 : Int32)), (.int (97 : Int32)), (.int (122 : Int32))] (.int (0 : Int32)) := Arv.set Ar14 q14 Sz14 Ng14 Ha14 Ft14 rfl W14 6 rfl (Nat.le_of_ble_eq_true rfl)
  have N14 := Fr.snoc X14 N12 G_b1
  have Zs14 := Nat.le_trans Zs12 (Keep.of_wr W14).1
  show Go p.tables e below P (T14.setTop (mkF m 40 #[.val (.int p0), .val (.int p1), .unset, .unset, .unset, .unset] [(.ref b1)]))
  refine Go.s (fun k => XS.astoreN X14.here hx rfl (hb hby at_40) rfl rfl (l' := #[.val (.int p0), .val (.int p1), .val (.ref b1), .unset, .unset, .unset]) rfl k) ?_
  show Go p.tables e below P (T14.setTop (mkF m 41 #[.val (.int p0), .val (.int p1), .val (.ref b1), .unset, .unset, .unset] []))
  refine Go.s (fun k => XS.aloadN X14.here hx rfl (hb hby at_41) rfl rfl k) ?_
  show Go p.tables e below P (T14.setTop (mkF m 42 #[.val (.int p0), .val (.int p1), .val (.ref b1), .unset, .unset, .unset] [(.ref b1)]))
  refine Go.s (fun k => XS.iloadN X14.here hx rfl (hb hby at_42) rfl k) ?_
  show Go p.tables e below P (T14.setTop (mkF m 43 #[.val (.int p0), .val (.int p1), .val (.ref b1), .unset, .unset, .unset] [(.int p1), (.ref b1)]))
  refine Go.s (fun k => X14.ldcI hx hown (mvT hZ (hw _ (List.mem_of_getElem? (i := 1) rfl))) rfl (hb hby at_43) k) ?_
  show Go p.tables e below P (T14.setTop (mkF m 45 #[.val (.int p0), .val (.int p1), .val (.ref b1), .unset, .unset, .unset] [(.int (2147483647 : Int32)), (.int p1), (.ref b1)]))
  refine Go.s (fun k => XS.iand X14.here hx rfl (hb hby at_45) rfl k) ?_
  show Go p.tables e below P (T14.setTop (mkF m 46 #[.val (.int p0), .val (.int p1), .val (.ref b1), .unset, .unset, .unset] [(.int (p1 &&& (2147483647 : Int32))), (.ref b1)]))
  refine Go.s (fun k => XS.bipush X14.here hx rfl (hb hby at_46) k) ?_
  show Go p.tables e below P (T14.setTop (mkF m 48 #[.val (.int p0), .val (.int p1), .val (.ref b1), .unset, .unset, .unset] [(.int (7 : Int32)), (.int (p1 &&& (2147483647 : Int32))), (.ref b1)]))
  refine Go.s (fun k => iremM X14 hx rfl (hb hby at_48) rfl (by decide) k) ?_
  show Go p.tables e below P (T14.setTop (mkF m 49 #[.val (.int p0), .val (.int p1), .val (.ref b1), .unset, .unset, .unset] [(.int ((p1 &&& (2147483647 : Int32)) % (7 : Int32))), (.ref b1)]))
  refine (?_ : ∀ ix : Int32, ix = ((p1 &&& (2147483647 : Int32)) % (7 : Int32)) → Go p.tables e below P (T14.setTop (mkF m 49 #[.val (.int p0), .val (.int p1), .val (.ref b1), .unset, .unset, .unset] [(.int ix), (.ref b1)]))) _ rfl
  intro ix hix
  obtain ⟨cl16, Ar16, q16, Sz16, Ng16, Ha16, Ft16⟩ := id V14
  have hin16 := inb_of (j := ix) Sz16 (own_ix p1 ix hix)
  obtain ⟨wv, hwv⟩ := own_el _ _ _ _ _ _ _ ix.toNatClampNeg
  have hat16 := Has.at Ha16 hin16 hwv
  refine Go.s (fun {t} k => X14.iaload hx (j := ix) (v := (.int wv)) (by rw [e14]; exact Ar16.1) (State.isArrayOf_alike hZ.alike Ar16.2.1) Ar16.2.2 hin16 hat16 (g := (mkF m 49 #[.val (.int p0), .val (.int p1), .val (.ref b1), .unset, .unset, .unset] [(.int ix), (.ref b1)])) rfl rfl (hb hby at_49) _ k) ?_
  show Go p.tables e below P (T14.setTop (mkF m 50 #[.val (.int p0), .val (.int p1), .val (.ref b1), .unset, .unset, .unset] [(.int wv)]))
  refine Go.s (fun k => XS.iloadN X14.here hx rfl (hb hby at_50) rfl k) ?_
  show Go p.tables e below P (T14.setTop (mkF m 51 #[.val (.int p0), .val (.int p1), .val (.ref b1), .unset, .unset, .unset] [(.int p1), (.int wv)]))
  refine Go.s (fun k => XS.iconst X14.here hx rfl (hb hby at_51) k) ?_
  show Go p.tables e below P (T14.setTop (mkF m 52 #[.val (.int p0), .val (.int p1), .val (.ref b1), .unset, .unset, .unset] [(.int (3 : Int32)), (.int p1), (.int wv)]))
  refine Go.s (fun k => XT.iushr X14.here hx rfl (hb hby at_52) rfl k) ?_
  show Go p.tables e below P (T14.setTop (mkF m 53 #[.val (.int p0), .val (.int p1), .val (.ref b1), .unset, .unset, .unset] [(.int (XT.ushr p1 (3 : Int32))), (.int wv)]))
  refine Go.s (fun k => XS.iconst X14.here hx rfl (hb hby at_53) k) ?_
  show Go p.tables e below P (T14.setTop (mkF m 54 #[.val (.int p0), .val (.int p1), .val (.ref b1), .unset, .unset, .unset] [(.int (3 : Int32)), (.int (XT.ushr p1 (3 : Int32))), (.int wv)]))
  refine Go.s (fun k => XS.iand X14.here hx rfl (hb hby at_54) rfl k) ?_
  show Go p.tables e below P (T14.setTop (mkF m 55 #[.val (.int p0), .val (.int p1), .val (.ref b1), .unset, .unset, .unset] [(.int ((XT.ushr p1 (3 : Int32)) &&& (3 : Int32))), (.int wv)]))
  refine Go.s (fun k => XS.iadd X14.here hx rfl (hb hby at_55) rfl k) ?_
  show Go p.tables e below P (T14.setTop (mkF m 56 #[.val (.int p0), .val (.int p1), .val (.ref b1), .unset, .unset, .unset] [(.int (wv + ((XT.ushr p1 (3 : Int32)) &&& (3 : Int32))))]))
  refine Go.s (fun k => XS.iconst X14.here hx rfl (hb hby at_56) k) ?_
  show Go p.tables e below P (T14.setTop (mkF m 57 #[.val (.int p0), .val (.int p1), .val (.ref b1), .unset, .unset, .unset] [(.int (1 : Int32)), (.int (wv + ((XT.ushr p1 (3 : Int32)) &&& (3 : Int32))))]))
  refine Go.s (fun k => XS.isub X14.here hx rfl (hb hby at_57) rfl k) ?_
  show Go p.tables e below P (T14.setTop (mkF m 58 #[.val (.int p0), .val (.int p1), .val (.ref b1), .unset, .unset, .unset] [(.int ((wv + ((XT.ushr p1 (3 : Int32)) &&& (3 : Int32))) - (1 : Int32)))]))
  refine Go.s (fun k => XS.istoreN X14.here hx rfl (hb hby at_58) rfl (l' := #[.val (.int p0), .val (.int p1), .val (.ref b1), .val (.int ((wv + ((XT.ushr p1 (3 : Int32)) &&& (3 : Int32))) - (1 : Int32))), .unset, .unset]) rfl k) ?_
  show Go p.tables e below P (T14.setTop (mkF m 59 #[.val (.int p0), .val (.int p1), .val (.ref b1), .val (.int ((wv + ((XT.ushr p1 (3 : Int32)) &&& (3 : Int32))) - (1 : Int32))), .unset, .unset] []))
  refine (?_ : ∀ bv : Int32, bv = ((wv + ((XT.ushr p1 (3 : Int32)) &&& (3 : Int32))) - (1 : Int32)) → Go p.tables e below P (T14.setTop (mkF m 59 #[.val (.int p0), .val (.int p1), .val (.ref b1), .val (.int bv), .unset, .unset] []))) _ rfl
  intro bv hbv
  refine Go.s (fun k => XS.iloadN X14.here hx rfl (hb hby at_59) rfl k) ?_
  show Go p.tables e below P (T14.setTop (mkF m 60 #[.val (.int p0), .val (.int p1), .val (.ref b1), .val (.int bv), .unset, .unset] [(.int p0)]))
  obtain ⟨v17, T17, L17, X17, Q17, st17⟩ := Con.static (own_rm1 l Z a0 hw [] p0 H14 n0 Zs14  ) X14 hx hZ (W := 0) hown (hw _ (List.mem_of_getElem? (i := 2) rfl)) (hw _ (List.mem_of_getElem? (i := 3) rfl)) (hw _ (List.mem_of_getElem? (i := 4) rfl)) (hw _ (List.mem_of_getElem? (i := 5) rfl)) (by decide) (by decide) (by decide) (by decide) (by decide) e14 (g := (mkF m 60 #[.val (.int p0), .val (.int p1), .val (.ref b1), .val (.int bv), .unset, .unset] [(.int p0)])) rfl (by rw [hml]; rfl) (argsL := [(.int p0)]) (rest := []) rfl (lenOf own_pd_0 rfl) rfl (by show 2 * 0 + _ ≤ _; exact Nat.le_of_eq rfl) (hb hby at_60)
  obtain ⟨rfl, Nq17, e17⟩ := Q17
  have N17 := Fr.app N14 Nq17
  refine Go.s (fun {t} => st17) ?_
  show Go p.tables e below P (T17.setTop (mkF m 63 #[.val (.int p0), .val (.int p1), .val (.ref b1), .val (.int bv), .unset, .unset] [(.int (own_f1 p0))]))
  refine Go.s (fun k => XS.iloadN X17.here hx rfl (hb hby at_63) rfl k) ?_
  show Go p.tables e below P (T17.setTop (mkF m 64 #[.val (.int p0), .val (.int p1), .val (.ref b1), .val (.int bv), .unset, .unset] [(.int p0), (.int (own_f1 p0))]))
  obtain ⟨v18, T18, L18, X18, Q18, st18⟩ := Con.static (own_rm2 l Z a0 hw [] p0 H14 n0 Zs14  ) X17 hx hZ (W := 1) hown (hw _ (List.mem_of_getElem? (i := 6) rfl)) (hw _ (List.mem_of_getElem? (i := 7) rfl)) (hw _ (List.mem_of_getElem? (i := 8) rfl)) (hw _ (List.mem_of_getElem? (i := 9) rfl)) (by decide) (by decide) (by decide) (by decide) (by decide) e17 (g := (mkF m 64 #[.val (.int p0), .val (.int p1), .val (.ref b1), .val (.int bv), .unset, .unset] [(.int p0), (.int (own_f1 p0))])) rfl (by rw [hml]; rfl) (argsL := [(.int p0)]) (rest := [(.int (own_f1 p0))]) rfl (lenOf own_pd_0 rfl) rfl (by show 2 * 0 + _ ≤ _; exact Nat.le_of_eq rfl) (hb hby at_64)
  obtain ⟨rfl, Nq18, e18⟩ := Q18
  have N18 := Fr.app N17 Nq18
  refine Go.s (fun {t} => st18) ?_
  show Go p.tables e below P (T18.setTop (mkF m 67 #[.val (.int p0), .val (.int p1), .val (.ref b1), .val (.int bv), .unset, .unset] [(.int (own_f2 p0)), (.int (own_f1 p0))]))
  refine Go.s (fun k => XS.icmpNo X18.here hx rfl (hb hby at_67) rfl (XT.ii_ne_f (own_eq p0)) k) ?_
  show Go p.tables e below P (T18.setTop (mkF m 70 #[.val (.int p0), .val (.int p1), .val (.ref b1), .val (.int bv), .unset, .unset] []))
  refine Go.s (fun k => XS.iconst X18.here hx rfl (hb hby at_70) k) ?_
  show Go p.tables e below P (T18.setTop (mkF m 71 #[.val (.int p0), .val (.int p1), .val (.ref b1), .val (.int bv), .unset, .unset] [(.int (1 : Int32))]))
  refine Go.s (fun k => XS.goto X18.here hx rfl (pc0 := 71) (pc' := 75) rfl (hb hby at_71) (by decide) (by decide) k) ?_
  show Go p.tables e below P (T18.setTop (mkF m 75 #[.val (.int p0), .val (.int p1), .val (.ref b1), .val (.int bv), .unset, .unset] [(.int (1 : Int32))]))
  refine Go.s (fun k => XS.istore X18.here hx rfl (hb hby at_75) rfl (l' := #[.val (.int p0), .val (.int p1), .val (.ref b1), .val (.int bv), .val (.int (1 : Int32)), .unset]) rfl k) ?_
  show Go p.tables e below P (T18.setTop (mkF m 77 #[.val (.int p0), .val (.int p1), .val (.ref b1), .val (.int bv), .val (.int (1 : Int32)), .unset] []))
  refine Go.s (fun k => XS.iloadN X18.here hx rfl (hb hby at_77) rfl k) ?_
  show Go p.tables e below P (T18.setTop (mkF m 78 #[.val (.int p0), .val (.int p1), .val (.ref b1), .val (.int bv), .val (.int (1 : Int32)), .unset] [(.int bv)]))
  obtain ⟨v19, T19, L19, X19, Q19, st19⟩ := Con.static (own_rm1 l Z a0 hw [] bv H14 n0 Zs14  ) X18 hx hZ (W := 0) hown (hw _ (List.mem_of_getElem? (i := 2) rfl)) (hw _ (List.mem_of_getElem? (i := 3) rfl)) (hw _ (List.mem_of_getElem? (i := 4) rfl)) (hw _ (List.mem_of_getElem? (i := 5) rfl)) (by decide) (by decide) (by decide) (by decide) (by decide) e18 (g := (mkF m 78 #[.val (.int p0), .val (.int p1), .val (.ref b1), .val (.int bv), .val (.int (1 : Int32)), .unset] [(.int bv)])) rfl (by rw [hml]; rfl) (argsL := [(.int bv)]) (rest := []) rfl (lenOf own_pd_0 rfl) rfl (by show 2 * 0 + _ ≤ _; exact Nat.le_of_eq rfl) (hb hby at_78)
  obtain ⟨rfl, Nq19, e19⟩ := Q19
  have N19 := Fr.app N18 Nq19
  refine Go.s (fun {t} => st19) ?_
  show Go p.tables e below P (T19.setTop (mkF m 81 #[.val (.int p0), .val (.int p1), .val (.ref b1), .val (.int bv), .val (.int (1 : Int32)), .unset] [(.int (own_f1 bv))]))
  refine Go.s (fun k => XS.iloadN X19.here hx rfl (hb hby at_81) rfl k) ?_
  show Go p.tables e below P (T19.setTop (mkF m 82 #[.val (.int p0), .val (.int p1), .val (.ref b1), .val (.int bv), .val (.int (1 : Int32)), .unset] [(.int bv), (.int (own_f1 bv))]))
  obtain ⟨v20, T20, L20, X20, Q20, st20⟩ := Con.static (own_rm2 l Z a0 hw [] bv H14 n0 Zs14  ) X19 hx hZ (W := 1) hown (hw _ (List.mem_of_getElem? (i := 6) rfl)) (hw _ (List.mem_of_getElem? (i := 7) rfl)) (hw _ (List.mem_of_getElem? (i := 8) rfl)) (hw _ (List.mem_of_getElem? (i := 9) rfl)) (by decide) (by decide) (by decide) (by decide) (by decide) e19 (g := (mkF m 82 #[.val (.int p0), .val (.int p1), .val (.ref b1), .val (.int bv), .val (.int (1 : Int32)), .unset] [(.int bv), (.int (own_f1 bv))])) rfl (by rw [hml]; rfl) (argsL := [(.int bv)]) (rest := [(.int (own_f1 bv))]) rfl (lenOf own_pd_0 rfl) rfl (by show 2 * 0 + _ ≤ _; exact Nat.le_of_eq rfl) (hb hby at_82)
  obtain ⟨rfl, Nq20, e20⟩ := Q20
  have N20 := Fr.app N19 Nq20
  refine Go.s (fun {t} => st20) ?_
  show Go p.tables e below P (T20.setTop (mkF m 85 #[.val (.int p0), .val (.int p1), .val (.ref b1), .val (.int bv), .val (.int (1 : Int32)), .unset] [(.int (own_f2 bv)), (.int (own_f1 bv))]))
  refine Go.s (fun k => XS.icmpNo X20.here hx rfl (hb hby at_85) rfl (XT.ii_ne_f (own_eq bv)) k) ?_
  show Go p.tables e below P (T20.setTop (mkF m 88 #[.val (.int p0), .val (.int p1), .val (.ref b1), .val (.int bv), .val (.int (1 : Int32)), .unset] []))
  refine Go.s (fun k => XS.iconst X20.here hx rfl (hb hby at_88) k) ?_
  show Go p.tables e below P (T20.setTop (mkF m 89 #[.val (.int p0), .val (.int p1), .val (.ref b1), .val (.int bv), .val (.int (1 : Int32)), .unset] [(.int (1 : Int32))]))
  refine Go.s (fun k => XS.goto X20.here hx rfl (pc0 := 89) (pc' := 93) rfl (hb hby at_89) (by decide) (by decide) k) ?_
  show Go p.tables e below P (T20.setTop (mkF m 93 #[.val (.int p0), .val (.int p1), .val (.ref b1), .val (.int bv), .val (.int (1 : Int32)), .unset] [(.int (1 : Int32))]))
  refine Go.s (fun k => XS.istore X20.here hx rfl (hb hby at_93) rfl (l' := #[.val (.int p0), .val (.int p1), .val (.ref b1), .val (.int bv), .val (.int (1 : Int32)), .val (.int (1 : Int32))]) rfl k) ?_
  show Go p.tables e below P (T20.setTop (mkF m 95 #[.val (.int p0), .val (.int p1), .val (.ref b1), .val (.int bv), .val (.int (1 : Int32)), .val (.int (1 : Int32))] []))
  refine Go.s (fun k => XS.iload X20.here hx rfl (hb hby at_95) rfl k) ?_
  show Go p.tables e below P (T20.setTop (mkF m 97 #[.val (.int p0), .val (.int p1), .val (.ref b1), .val (.int bv), .val (.int (1 : Int32)), .val (.int (1 : Int32))] [(.int (1 : Int32))]))
  refine Go.s (fun k => XS.ifNo X20.here hx rfl (hb hby at_97) rfl (XT.i0_eq_f (by decide)) k) ?_
  show Go p.tables e below P (T20.setTop (mkF m 100 #[.val (.int p0), .val (.int p1), .val (.ref b1), .val (.int bv), .val (.int (1 : Int32)), .val (.int (1 : Int32))] []))
  refine Go.s (fun k => XS.iload X20.here hx rfl (hb hby at_100) rfl k) ?_
  show Go p.tables e below P (T20.setTop (mkF m 102 #[.val (.int p0), .val (.int p1), .val (.ref b1), .val (.int bv), .val (.int (1 : Int32)), .val (.int (1 : Int32))] [(.int (1 : Int32))]))
  refine Go.s (fun k => XS.ifNo X20.here hx rfl (hb hby at_102) rfl (XT.i0_eq_f (by decide)) k) ?_
  show Go p.tables e below P (T20.setTop (mkF m 105 #[.val (.int p0), .val (.int p1), .val (.ref b1), .val (.int bv), .val (.int (1 : Int32)), .val (.int (1 : Int32))] []))
  refine Go.s (fun k => XS.iconst X20.here hx rfl (hb hby at_105) k) ?_
  show Go p.tables e below P (T20.setTop (mkF m 106 #[.val (.int p0), .val (.int p1), .val (.ref b1), .val (.int bv), .val (.int (1 : Int32)), .val (.int (1 : Int32))] [(.int (1 : Int32))]))
  refine Go.s (fun k => XS.goto X20.here hx rfl (pc0 := 106) (pc' := 110) rfl (hb hby at_106) (by decide) (by decide) k) ?_
  show Go p.tables e below P (T20.setTop (mkF m 110 #[.val (.int p0), .val (.int p1), .val (.ref b1), .val (.int bv), .val (.int (1 : Int32)), .val (.int (1 : Int32))] [(.int (1 : Int32))]))
  exact Go.retZ X20 hx hlk hret (by decide) (hb hby at_110) (fun U hU hF => hP U _ _ ⟨rfl, N20⟩ ⟨hF.1, hF.2.1, hF.2.2.mono (by decide) (by decide)⟩)
set_option maxRecDepth 65536 in
set_option maxHeartbeats 40000000 in
theorem own_comes {Post : Tables → Env → Array Value → State → Outcome → State → Prop} (hpost : ∀ tb e args s v u, (limb_1_1.after args s (.returned v) u = true ∧ limb_1_2.after args s (.returned v) u = true ∧ True) → FrameEnd s (.returned v) u (Jvm.fieldLocs frame_1_writes args s ++ Jvm.arrayLocs frame_1_arrays args s ++ Jvm.staticLocs frame_1_statics s) 16 128 → Post tb e args s (.returned v) u) :
    ArmFor flags0 classFile x code maxLocals ret World_1 tables_1 room_1 Calls_1 rest_1 Pre_1 Post := by
  intro l hfl _ _ p e ha hc hk s m args below hf hA hF happ hP
  obtain ⟨hcalls, hrest, hpre⟩ := hP
  obtain ⟨-, -, -, hnamed, -, -, -, hat⟩ := (Spec.applies_iff hf).mp happ
  obtain ⟨hg, hn⟩ := and_e (Cond.before_iff.mp (show (Jvm.Cond.and given_1 narrow_1).before args s = true from hpre))
  obtain ⟨h1, g1⟩ := and_e hg
  obtain ⟨w0, w1, rfl⟩ : ∃ w0 w1 : Value, args = #[w0, w1] := by
    have hs : args.size = 2 := by simpa [Cond.value, given_1] using h1
    obtain ⟨L⟩ := args
    match L, hs with
    | [w0, w1], _ => exact ⟨w0, w1, rfl⟩
  have hw := fun d (hd : d ∈ tables_1) => atoms_spec (ws := Jvm.Cond.code x code maxLocals ret :: tables_1) hat d (List.mem_cons_of_mem _ hd)
  have hfit : Fit s := fun {y c} hc i hi => by
    obtain ⟨ha, rfl⟩ := Array.getElem?_eq_some_iff.mp hc
    have q := List.all_eq_true.mp ((Array.all_eq_true_iff_forall_mem.mp hF) _ (Array.getElem_mem ha)) i (List.mem_range.mpr hi)
    simpa [Array.getElem?_eq_getElem hi] using q
  obtain ⟨a0, g2⟩ := and_e g1
  obtain ⟨i0, ee0⟩ := is_v a0
  obtain rfl : w0 = (.int i0) := Option.some.inj ee0
  obtain ⟨i1, ee1⟩ := is_v g2
  obtain rfl : w1 = (.int i1) := Option.some.inj ee1
  obtain ⟨n, o, h1, h2, h3, _, L, rfl, ⟨rfl, N⟩, hq⟩ := own_rm0 l s _ hw tables_1 i0 i1  s.heap s.heap.size (Nat.le_refl _)  p e ha hc hk s m _ below hf ((Spec.applies_iff_loose hf).mp happ).1 ⟨rfl, State.Warmed39.refl s, rfl⟩ trivial
  refine ⟨n, _, h1, h2, h3, hpost _ _ _ _ _ _ ⟨Cond.after_iff.mpr rfl, Cond.after_iff.mpr (eq_i res_at (Term.int_eval (1)) rfl), trivial⟩ ⟨hq.1, hq.2.1, (hq.2.2.sift fun y hy => Or.inr (N y hy)).mono (by decide) (by decide)⟩⟩
theorem main_1_1 : Claimed_1_1 := own_comes fun _ _ _ _ _ _ h hF => ⟨h.1, hF⟩
theorem main_1_2 : Claimed_1_2 := own_comes fun _ _ _ _ _ _ h hF => ⟨h.2.1, hF⟩
end Jvm.Pilot.@@N@@
namespace Jvm.Pilot.@@N@@
open Jvm Jvm.ClassFile Sem Op Lib Jvm.Free Jvm.Stand Jvm.Pilot.@@N@@.Jvm.D
/-! MADE BY PROGRAM (witnessworld.py) out of the Statement's table words and the real class files: 9 classes; the members and pool entries that the words name. The judged class is class 1, her method 2. -/
namespace start1
open Jvm.ClassFile
def u (s : String) : CpInfo := .utf8 (stringToUtf16 s)
/-- a pool by its gaps: so many unusable entries, then the entry; so many at the end -/
def gap : Nat → List CpInfo → List CpInfo
  | 0, r => r
  | n + 1, r => .unusable :: gap n r
def poolList (es : List (Nat × CpInfo)) (last : Nat) : List CpInfo := es.foldr (fun e r => gap e.1 (e.2 :: r)) (gap last [])
def pool (es : List (Nat × CpInfo)) (last : Nat) : Array CpInfo := ⟨poolList es last⟩
def fileOf (pool : Array CpInfo) (this : Nat) (attrs : Array Attribute := #[]) (ms : Array MethodInfo := #[]) (fl : Nat := 33) (sup : Nat := 0) (ifs : Array Nat := #[]) (fds : Array FieldInfo := #[]) : ClassFile where
  minorVersion := 0
  majorVersion := 65
  constantPool := pool
  accessFlags := fl
  thisClass := this
  superClass := sup
  interfaces := ifs
  fields := fds
  methods := ms
  attributes := attrs
def plain (name : String) (sup : Option ClassId) : Class where
  name := name
  kind := .ordinary
  loader := none
  accessFlags := 33
  super := sup
  interfaces := #[]
  cf := none
  fields := #[]
  methods := #[]
  instanceTypes := #[]
  staticTypes := #[]
  resolved := #[]
  callSites := []
  init := .initialized
  statics := none
  mirror := none

def pool0 : Array CpInfo := pool [(5, u "<init>"), (0, u "()V"), (1, .class_ 10), (1, u "java/lang/Object")] 113

def k0m0 : Method := { name := "<init>", desc := "()V", sig := { parameters := [], returnType := none }, accessFlags := 1, code := none }
/-- java/lang/Object -/
def k0 : Class := { plain "java/lang/Object" none with
  accessFlags := 33
  interfaces := #[]
  cf := some (fileOf pool0 8 #[] #[{ accessFlags := 1, nameIndex := 5, descriptorIndex := 6, attributes := #[] }] 33 0 #[] #[])
  fields := #[]
  methods := #[k0m0]
  instanceTypes := #[]
  staticTypes := #[]
  resolved := Array.replicate 124 none
  statics := none }

def pool1 : Array CpInfo := pool [(2, .class_ 4), (1, u "java/lang/Object"), (0, u "<init>"), (0, u "()V"), (0, .long 97), (1, .long 26), (1, .long 48), (1, .long 10), (1, .integer 2147483647), (0, .methodref 17 18), (0, .class_ 19), (0, .nameAndType 20 21), (0, u "com/example/impart/impart/Names"), (0, u "isStart"), (0, u "(I)Z"), (0, .methodref 23 24), (0, .class_ 25), (0, .nameAndType 26 21), (0, u "com/example/impart/impart/NamesIsStartPinLaw"), (0, u "ref"), (3, u "law"), (0, u "(II)Z")] 4

def k1m0 : Method := { name := "<init>", desc := "()V", sig := { parameters := [], returnType := none }, accessFlags := 2, code := none }
def k1c1 : Code := { maxStack := 4, maxLocals := 8, code := method_2_code, exceptionTable := #[], attributes := #[] }
def k1m1 : Method := { name := "ref", desc := "(I)Z", sig := { parameters := [.int], returnType := some .boolean }, accessFlags := 10, code := some k1c1 }
def k1c2 : Code := { maxStack := 4, maxLocals := 6, code := code, exceptionTable := #[], attributes := #[] }
def k1m2 : Method := { name := "law", desc := "(II)Z", sig := { parameters := [.int, .int], returnType := some .boolean }, accessFlags := 9, code := some k1c2 }
/-- com/example/impart/impart/NamesIsStartPinLaw -/
def k1 : Class := { plain "com/example/impart/impart/NamesIsStartPinLaw" (some 0) with
  accessFlags := 49
  interfaces := #[]
  cf := some (fileOf pool1 23 #[] #[{ accessFlags := 2, nameIndex := 5, descriptorIndex := 6, attributes := #[] }, { accessFlags := 10, nameIndex := 26, descriptorIndex := 21, attributes := #[] }, { accessFlags := 9, nameIndex := 30, descriptorIndex := 31, attributes := #[] }] 49 2 #[] #[])
  fields := #[]
  methods := #[k1m0, k1m1, k1m2]
  instanceTypes := #[]
  staticTypes := #[]
  resolved := Array.replicate 36 none
  statics := none }

def pool2 : Array CpInfo := pool [(2, .class_ 4), (1, u "java/lang/Object"), (0, u "<init>"), (0, u "()V"), (4, .class_ 13), (1, u "com/example/impart/impart/Names"), (0, u "isStart"), (0, u "(I)Z"), (2, u "KEYWORDS"), (0, u "Ljava/util/Set;")] 122

def k2m0 : Method := { name := "<init>", desc := "()V", sig := { parameters := [], returnType := none }, accessFlags := 2, code := none }
def k2c1 : Code := { maxStack := 2, maxLocals := 1, code := prog_31_method_2_code, exceptionTable := #[], attributes := #[] }
def k2m1 : Method := { name := "isStart", desc := "(I)Z", sig := { parameters := [.int], returnType := some .boolean }, accessFlags := 8, code := some k2c1 }
/-- com/example/impart/impart/Names -/
def k2 : Class := { plain "com/example/impart/impart/Names" (some 0) with
  accessFlags := 48
  interfaces := #[]
  cf := some (fileOf pool2 11 #[] #[{ accessFlags := 2, nameIndex := 5, descriptorIndex := 6, attributes := #[] }, { accessFlags := 8, nameIndex := 14, descriptorIndex := 15, attributes := #[] }] 48 2 #[] #[{ accessFlags := 26, nameIndex := 18, descriptorIndex := 19, attributes := #[] }])
  fields := #[{ name := "KEYWORDS", type := (.object "java/util/Set"), accessFlags := 26, slot := 0, constantValue := 0 }]
  methods := #[k2m0, k2m1]
  instanceTypes := #[]
  staticTypes := #[(.object "java/util/Set")]
  resolved := Array.replicate 142 none
  statics := none }

def pool3 : Array CpInfo := pool [(1, u "java/lang/Cloneable"), (0, .class_ 1), (0, u "java/lang/Object"), (0, .class_ 3)] 3

/-- java/lang/Cloneable -/
def k3 : Class := { plain "java/lang/Cloneable" (some 0) with
  accessFlags := 1537
  interfaces := #[]
  cf := some (fileOf pool3 2 #[] #[] 1537 4 #[] #[])
  fields := #[]
  methods := #[]
  instanceTypes := #[]
  staticTypes := #[]
  resolved := Array.replicate 8 none
  statics := none }

def pool4 : Array CpInfo := pool [(1, u "java/io/Serializable"), (0, .class_ 1), (0, u "java/lang/Object"), (0, .class_ 3)] 3

/-- java/io/Serializable -/
def k4 : Class := { plain "java/io/Serializable" (some 0) with
  accessFlags := 1537
  interfaces := #[]
  cf := some (fileOf pool4 2 #[] #[] 1537 4 #[] #[])
  fields := #[]
  methods := #[]
  instanceTypes := #[]
  staticTypes := #[]
  resolved := Array.replicate 8 none
  statics := none }

/-- the primitive byte -/
def k5 : Class := { plain "byte" none with kind := .primitive 'B', accessFlags := 0x411 }
/-- [B -/
def k6 : Class := { plain "[B" (some 0) with kind := .array 5 .byte, interfaces := #[3, 4], accessFlags := 1041 }

/-- the primitive int -/
def k7 : Class := { plain "int" none with kind := .primitive 'I', accessFlags := 0x411 }
/-- [I -/
def k8 : Class := { plain "[I" (some 0) with kind := .array 7 .int, interfaces := #[3, 4], accessFlags := 1041 }

def heap : Heap := #[]
def classes : Array Class := #[k0, k1, k2, k3, k4, k5, k6, k7, k8]
def interned : List (Array UInt16 × Addr) := []
def slotsUsed : Nat := 0
def theMethod : MethodId := ⟨1, 2⟩
def args0 : Array Value := #[.int 70, .int 9]
def aboutOver (below : List Frame) : State where
  vm := { classes := classes, interned := interned.toArray }
  heap := heap
  slotsUsed := slotsUsed
  threads := #[{ frames := .invoking theMethod args0 :: below }]
def below0 : List Frame := [.native { method := ⟨0, 0⟩, args := #[] }]
def about1 : State := aboutOver below0
def p0 : Program := .bare "" "" ""
def e0 : Env := launch0.env 0 0 0
theorem w_frames : about1.frames = Frame.invoking theMethod args0 :: below0 := rfl
set_option maxRecDepth 65536 in
theorem w_args : argsFit about1.vm theMethod args0 = true := by decide +kernel
set_option maxRecDepth 65536 in
theorem w_heap : heapFits about1 = true := by decide +kernel
set_option maxRecDepth 65536 in
theorem w_runnable : about1.curStatus? = some .runnable := by decide +kernel
set_option maxRecDepth 65536 in
theorem w_alone : about1.alone = true := by decide +kernel
set_option maxRecDepth 65536 in
theorem w_named : about1.methodNamed? x = some theMethod := by decide +kernel
set_option maxRecDepth 65536 in
theorem w_hears : about1.hears theMethod below0 = true := by decide +kernel
set_option maxRecDepth 65536 in
theorem w_ripe : about1.ripe theMethod args0 below0 = true := by decide +kernel
theorem w_running : about1.status = .running := rfl
set_option maxRecDepth 65536 in
theorem w_room : about1.hasRoom e0.platform room_1 = true :=
  launch0.hasRoom_least _ room_1 (by decide +kernel) (by decide +kernel) (by decide +kernel) (by decide +kernel) (by decide +kernel) (by decide +kernel)
theorem allAtoms_all (ts : List Jvm.Cond) (a : Array Jvm.Value) (st : Jvm.State) : (allAtoms ts).before a st = ts.all (fun c => c.before a st) := by
  induction ts with
  | nil => rfl
  | cons c t ih =>
    show (Jvm.Cond.and c (allAtoms t)).before a st = _
    rw [Jvm.Cond.before_and, ih, List.all_cons]
def words1 : List Jvm.Cond := Jvm.Cond.code x code maxLocals ret :: tables_1
/-- a 'code' word, met by the world's own term for the bytes: nothing is compared byte by byte -/
theorem code_word {y : MethodName} {bytes : ByteArray} {mx : Nat} {rt : Option FieldType} {a : Array Value} {s : State} {m : MethodId} {meth : Method} {c : Code} (h1 : s.methodNamed? y = some m) (h2 : s.vm.method? m = some meth) (h3 : meth.code = some c) (h4 : c.code = bytes)
    (h5 : (c.maxLocals == mx && c.exceptionTable.isEmpty && decide (c.maxStack ≤ mostOperands) && decide (meth.sig.returnType = rt) && !meth.locks && decide (parseMethodDescriptor y.desc = some meth.sig)) = true) : (Jvm.Cond.code y bytes mx rt).before a s = true := by
  simp only [Bool.and_eq_true, beq_iff_eq, Bool.not_eq_true', decide_eq_true_eq] at h5
  obtain ⟨⟨⟨⟨⟨g1, g2⟩, g3⟩, g4⟩, g5⟩, g6⟩ := h5
  simp [Cond.before, Cond.holds, Cond.value, h1, h2, h3, h4, g1, g2, g3, g4, g5, g6]
def isCode : Jvm.Cond → Bool
  | .code _ _ _ _ => true
  | _ => false
theorem all_split {L : List Jvm.Cond} {P : Jvm.Cond → Bool} (h1 : L.all (fun c => isCode c || P c) = true) (h2 : ∀ c ∈ L.filter isCode, P c = true) : L.all P = true := by
  refine List.all_eq_true.mpr fun c hc => ?_
  have h := List.all_eq_true.mp h1 c hc
  rcases Bool.eq_false_or_eq_true (isCode c) with hi | hi
  · exact h2 c (List.mem_filter.mpr ⟨hc, hi⟩)
  · simpa [hi] using h
set_option maxRecDepth 65536 in
theorem w_c0 : (Jvm.Cond.code x code maxLocals ret).before args0 about1 = true := code_word (m := ⟨1, 2⟩) (meth := k1m2) (c := k1c2) (by decide +kernel) rfl rfl rfl (by decide +kernel)
set_option maxRecDepth 65536 in
theorem w_c1 : (Jvm.Cond.code ({ cls := "com/example/impart/impart/Names", name := "isStart", desc := "(I)Z" } : Jvm.MethodName) prog_31_method_2_code (1 : Nat) (Option.some Jvm.ClassFile.FieldType.boolean)).before args0 about1 = true := code_word (m := ⟨2, 1⟩) (meth := k2m1) (c := k2c1) (by decide +kernel) rfl rfl rfl (by decide +kernel)
set_option maxRecDepth 65536 in
theorem w_c2 : (Jvm.Cond.code ({ cls := "com/example/impart/impart/NamesIsStartPinLaw", name := "ref", desc := "(I)Z" } : Jvm.MethodName) method_2_code (8 : Nat) (Option.some Jvm.ClassFile.FieldType.boolean)).before args0 about1 = true := code_word (m := ⟨1, 1⟩) (meth := k1m1) (c := k1c1) (by decide +kernel) rfl rfl rfl (by decide +kernel)
def codes1 : List Jvm.Cond := [Jvm.Cond.code x code maxLocals ret, Jvm.Cond.code ({ cls := "com/example/impart/impart/Names", name := "isStart", desc := "(I)Z" } : Jvm.MethodName) prog_31_method_2_code (1 : Nat) (Option.some Jvm.ClassFile.FieldType.boolean), Jvm.Cond.code ({ cls := "com/example/impart/impart/NamesIsStartPinLaw", name := "ref", desc := "(I)Z" } : Jvm.MethodName) method_2_code (8 : Nat) (Option.some Jvm.ClassFile.FieldType.boolean)]
set_option maxRecDepth 65536 in
theorem codes_eq : words1.filter isCode = codes1 := rfl
theorem w_codes : ∀ c ∈ words1.filter isCode, c.before args0 about1 = true := by
  rw [codes_eq]
  intro c hc
  simp only [codes1, List.mem_cons, List.not_mem_nil, or_false] at hc
  rcases hc with rfl | rfl | rfl
  · exact w_c0
  · exact w_c1
  · exact w_c2
set_option maxRecDepth 65536 in
theorem w_t1 : words1.all (fun c => isCode c || c.before args0 about1) = true := by decide +kernel
theorem w_tables : (allAtoms (Jvm.Cond.code x code maxLocals ret :: tables_1)).before args0 about1 = true := by
  rw [allAtoms_all]
  show words1.all (fun c => c.before args0 about1) = true
  refine all_split ?_ w_codes
  rw [w_t1]
set_option maxRecDepth 65536 in
theorem w_case : (Jvm.Cond.and given_1 narrow_1).before args0 about1 = true := by decide +kernel
theorem w_applies : (headSpec (Jvm.Cond.code x code maxLocals ret :: tables_1) room_1).applies x e0.platform about1 = true :=
  (Spec.applies_iff w_frames).mpr ⟨w_running, w_runnable, w_alone, w_named, w_hears, w_ripe, w_room, w_tables⟩
theorem atStart : AtStart classFile x code maxLocals ret World_1 tables_1 room_1 Calls_1 rest_1 Pre_1 launch0 p0 e0 about1 theMethod args0 below0 :=
  ⟨lists_1, trivial, launch0.admits_env _ _ _, launch0.least_env, fairChoices_fair.cas, fairChoices_fair.clock, w_frames, w_args, w_heap, w_applies, trivial, trivial, w_case⟩
end start1
theorem witness_1 : WitnessClaimed_1 := ⟨start1.p0, start1.e0, start1.about1, start1.theMethod, start1.args0, start1.below0, start1.atStart⟩
end Jvm.Pilot.@@N@@
