import JvmDerived
import JvmDerived.Pilot.@@N@@Statement
import JvmDerived.Pilot.@@N@@Code
set_option linter.unusedVariables false
set_option linter.unusedSimpArgs false
@@BLOCK:NumsL.lean.txt@@
namespace Jvm.Pilot.@@N@@
open Jvm Jvm.ClassFile Sem Op Lib Jvm.Free Jvm.Stand Jvm.LawKit Jvm.RoadKit Bundle Jvm.Pilot.@@N@@.Jvm.D
/-! my own layer: what stands still in a walk (own_Cx, own_Mx), where it stands (own_Sx), what is left of it (own_Fin) -/
abbrev own_Cx : Type := Program × Launch × Env × Room × State × MethodId × Array Value × List Frame × Method × Code
def own_Sx (n0 : Nat) : own_Cx → State → Heap → Nat → Nat → Prop
  | (p, l, e, R, s, m, args, below, meth, c), T, h, cl, sl => ∃ locs, Stand p l e R s m args below meth c T locs cl sl ∧ Fr n0 locs ∧ T.heap = h ∧ n0 ≤ s.heap.size ∧ cl ≤ R.cells ∧ sl ≤ R.slots
def own_Mx (Z : State) (a0 : Array Value) : own_Cx → ByteArray → String → Nat → Option FieldType → Room → Prop
  | (p, l, e, R, s, m, args, below, meth, c), code, own, mx, ret, rm => p.tables.exec = Jvm.exec ∧ c.code = code ∧ c.maxLocals = mx ∧ s.vm.findClass own = some m.cls ∧ meth.sig.returnType = ret ∧ meth.locks = false ∧ Z.Warmed39 s.vm ∧ R = rm ∧ (∀ d ∈ tables_1, d.before a0 Z = true)
def own_Fin (n0 : Nat) : own_Cx → (Option Value → Heap → Prop) → State → Nat → Array Slot → List Value → Prop
  | (p, l, e, R, s, m, args, below, meth, c), P, T, pc, L, S => ∃ s₂ o, Steps p.tables e below (T.setTop (mkF m pc L S)) s₂ ∧ s₂.status = .running ∧ Ended s₂ below o ∧ ∃ v L', o = .returned v ∧ (P v s₂.heap ∧ Fr n0 L') ∧ FrameEnd s o s₂ L' R.cells R.slots
/-- a method's contract: from these arguments and this heap it returns, and P says what and with which heap -/
def own_Met (l : Launch) (Z : State) (n0 : Nat) (y : MethodName) (code : ByteArray) (mx : Nat) (ret : Option FieldType) (rm : Room) (args : Array Value) (h0 : Heap) (P : Option Value → Heap → Prop) : Prop :=
  ∀ ws : List Jvm.Cond, MetFree l y (head1 (Jvm.Cond.code y code mx ret :: ws) rm) (fun a U => a = args ∧ Z.Warmed39 U.vm ∧ U.heap = h0) (fun _ _ _ _ _ => True) (fun _ U o U' => ∃ v L, o = .returned v ∧ (P v U'.heap ∧ Fr n0 L) ∧ FrameEnd U o U' L rm.cells rm.slots)
section OwnLayer
variable {Z : State} {a0 : Array Value} {n0 : Nat} {K : own_Cx} {code : ByteArray} {own : String} {mx : Nat} {ret : Option FieldType} {rm : Room} {P : Option Value → Heap → Prop} {T : State} {h : Heap} {cl sl pc pc' : Nat} {L L' : Array Slot} {S rest : List Value}
theorem own_enter {l : Launch} {y : MethodName} {args : Array Value} {h0 : Heap} (hpl : plainFor y = true) (hw : ∀ d ∈ tables_1, d.before a0 Z = true) (hn : n0 ≤ h0.size) (he : ∀ m, entryFrame m args mx = mkF m 0 L [])
    (body : ∀ (K : own_Cx) (T : State), K.2.2.2.2.2.2.2.2.1.name = y.name → own_Mx Z a0 K code y.cls mx ret rm → own_Sx n0 K T h0 0 0 → own_Fin n0 K P T 0 L []) : own_Met l Z n0 y code mx ret rm args h0 P := by
  intro ws
  refine MetFree.of_bodySF hpl hisR ?_
  intro p e s m args' below meth c s₁ Bd hml0 hP hK
  obtain ⟨rfl, hZ, hh⟩ := hP
  have hown : s.vm.findClass y.cls = some m.cls := findClass_of_methodNamed Bd.named
  have X0 : Stand p l e rm s m args' below meth c s₁ [] 0 0 := Stand.of_body Bd
  have e0 : s₁.heap = h0 := by rw [← hh, Bd.state]; rfl
  obtain ⟨s2, o, st, r⟩ := body (p, l, e, rm, s, m, args', below, meth, c) s₁ (name_of_methodNamed Bd.named Bd.method).1 ⟨Bd.exec, Bd.bytes, hml0, hown, Bd.returns, Bd.notSynchronized, hZ, rfl, hw⟩ ⟨[], X0, Fr.nil n0, e0, by rw [hh]; exact hn, Nat.zero_le _, Nat.zero_le _⟩
  exact ⟨s2, o, castTop (he m) st, r⟩
theorem own_Sx.size (X : own_Sx n0 K T h cl sl) : n0 ≤ h.size := by
  obtain ⟨p, l, e, R, s, m, args, below, meth, c⟩ := K
  obtain ⟨locs, X, -, rfl, hn, -⟩ := X
  exact Nat.le_trans hn X.same.2.1
theorem own_ret {t : FieldType} (M : own_Mx Z a0 K code own mx (some t) rm) (X : own_Sx n0 K T h cl sl) {w w' : Value} {i : Instr} (hd : decode code pc = .ok (i, 1))
    (hst : ∀ {p : Program} {l : Launch} {e : Env} {R : Room} {s : State} {m : MethodId} {args : Array Value} {below : List Frame} {meth : Method} {c : Code} {locs : List Loc} {fs : List Frame}, Stand p l e R s m args below meth c T locs cl sl → p.tables.exec = Jvm.exec → meth.sig.returnType = some t → decode c.code pc = .ok (i, 1) → (∀ (f : JFrame) (acts : List Action), f.method = m → f.locked = none → f.entered = [] → (doReturn e (T.setTop f) acts (some w')).1 = T.setFrames fs) → Steps p.tables e below (T.setTop (mkF m pc L (w :: S))) (T.setFrames fs)) (hP : P (some w') h) : own_Fin n0 K P T pc L (w :: S) := by
  obtain ⟨p, l, e, R, s, m, args, below, meth, c⟩ := K
  obtain ⟨hx, hby, hml, hown, hret, hlk, hZ, rfl, hw⟩ := M
  obtain ⟨locs, X, hN, rfl, hn, hc, hs⟩ := X
  obtain ⟨fs, hr, hrun, hended, hW, hsame⟩ := X.leave (v := some w') (fun q => by rw [hret] at q; cases q) hlk
  exact ⟨_, _, hst X hx hret (hb hby hd) hr, hrun, hended, _, _, rfl, ⟨hP, hN⟩, ⟨_, rfl⟩, hW, hsame.mono hc hs⟩
theorem own_retI (M : own_Mx Z a0 K code own mx (some .int) rm) (X : own_Sx n0 K T h cl sl) {z : Int32} (hd : decode code pc = .ok (.ireturn, 1)) (hP : P (some (.int z)) h) : own_Fin n0 K P T pc L (.int z :: S) :=
  own_ret M X hd (fun X hx hret hd hr => retOut X hx hret rfl (Or.inl ⟨rfl, Or.inl rfl, z, rfl⟩) hd hr) hP
theorem own_retJ (M : own_Mx Z a0 K code own mx (some .long) rm) (X : own_Sx n0 K T h cl sl) {z : Int64} (hd : decode code pc = .ok (.lreturn, 1)) (hP : P (some (.long z)) h) : own_Fin n0 K P T pc L (.long z :: S) :=
  own_ret M X hd (fun X hx hret hd hr => retOut X hx hret rfl (Or.inr (Or.inl ⟨rfl, rfl, z, rfl⟩)) hd hr) hP
theorem own_retA {t : FieldType} (M : own_Mx Z a0 K code own mx (some t) rm) (X : own_Sx n0 K T h cl sl) {a : Addr} (ht : t.isReference = true) (hna : narrow t (.ref a) = .ref a) (hd : decode code pc = .ok (.areturn, 1)) (hP : P (some (.ref a)) h) : own_Fin n0 K P T pc L (.ref a :: S) :=
  own_ret M X hd (fun X hx hret hd hr => retOut X hx hret hna (Or.inr (Or.inr (Or.inr (Or.inr ⟨rfl, ht, rfl⟩)))) hd hr) hP
theorem own_retN {t : FieldType} (M : own_Mx Z a0 K code own mx (some t) rm) (X : own_Sx n0 K T h cl sl) {z z' : Int32} (ht : t = .boolean ∨ t = .byte ∨ t = .char ∨ t = .short) (hd : decode code pc = .ok (.ireturn, 1)) (hz : nar t z = z') (hP : P (some (.int z')) h) : own_Fin n0 K P T pc L (.int z :: S) :=
  own_ret M X hd (fun X hx hret hd hr => retN X hx hret ht hd (by rw [hz]; exact hr)) hP
theorem own_retV (M : own_Mx Z a0 K code own mx none rm) (X : own_Sx n0 K T h cl sl) (hd : decode code pc = .ok (.return_, 1)) (hP : P none h) : own_Fin n0 K P T pc L [] := by
  obtain ⟨p, l, e, R, s, m, args, below, meth, c⟩ := K
  obtain ⟨hx, hby, hml, hown, hret, hlk, hZ, rfl, hw⟩ := M
  obtain ⟨locs, X, hN, rfl, hn, hc, hs⟩ := X
  obtain ⟨fs, hr, hrun, hended, hW, hsame⟩ := X.leave (v := none) (fun _ => rfl) hlk
  exact ⟨_, _, X.returnOut hx hret (hb hby hd) hr, hrun, hended, _, _, rfl, ⟨hP, hN⟩, ⟨_, rfl⟩, hW, hsame.mono hc hs⟩
theorem own_iload (M : own_Mx Z a0 K code own mx ret rm) (X : own_Sx n0 K T h cl sl) {k : Nat} {v : Int32} (hd : decode code pc = .ok (.iload k, 2)) (hl : L[k]? = some (.val (.int v))) (hp : pc + 2 = pc') (hr : own_Fin n0 K P T pc' L (.int v :: S)) : own_Fin n0 K P T pc L (S) := by
  obtain ⟨p, l, e, R, s, m, args, below, meth, c⟩ := K
  obtain ⟨hx, hby, hml, hown, hret, hlk, hZ, rfl, hw⟩ := M
  obtain ⟨locs, X, hN, eT, hn, hcl, hsl⟩ := X
  obtain ⟨s2, o2, st, r⟩ := hr
  subst hp
  exact ⟨s2, o2, XS.iload X.here hx rfl (hb hby hd) hl st, r⟩
theorem own_iloadN (M : own_Mx Z a0 K code own mx ret rm) (X : own_Sx n0 K T h cl sl) {k : Fin 4} {v : Int32} (hd : decode code pc = .ok (.iload_n k, 1)) (hl : L[k.val]? = some (.val (.int v))) (hp : pc + 1 = pc') (hr : own_Fin n0 K P T pc' L (.int v :: S)) : own_Fin n0 K P T pc L (S) := by
  obtain ⟨p, l, e, R, s, m, args, below, meth, c⟩ := K
  obtain ⟨hx, hby, hml, hown, hret, hlk, hZ, rfl, hw⟩ := M
  obtain ⟨locs, X, hN, eT, hn, hcl, hsl⟩ := X
  obtain ⟨s2, o2, st, r⟩ := hr
  subst hp
  exact ⟨s2, o2, XS.iloadN X.here hx rfl (hb hby hd) hl st, r⟩
theorem own_istore (M : own_Mx Z a0 K code own mx ret rm) (X : own_Sx n0 K T h cl sl) {k : Nat} {v : Int32} (hd : decode code pc = .ok (.istore k, 2)) (hl : storeLocals L k (.int v) = some L') (hp : pc + 2 = pc') (hr : own_Fin n0 K P T pc' L' (S)) : own_Fin n0 K P T pc L (.int v :: S) := by
  obtain ⟨p, l, e, R, s, m, args, below, meth, c⟩ := K
  obtain ⟨hx, hby, hml, hown, hret, hlk, hZ, rfl, hw⟩ := M
  obtain ⟨locs, X, hN, eT, hn, hcl, hsl⟩ := X
  obtain ⟨s2, o2, st, r⟩ := hr
  subst hp
  exact ⟨s2, o2, XS.istore X.here hx rfl (hb hby hd) rfl hl st, r⟩
theorem own_istoreN (M : own_Mx Z a0 K code own mx ret rm) (X : own_Sx n0 K T h cl sl) {k : Fin 4} {v : Int32} (hd : decode code pc = .ok (.istore_n k, 1)) (hl : storeLocals L k.val (.int v) = some L') (hp : pc + 1 = pc') (hr : own_Fin n0 K P T pc' L' (S)) : own_Fin n0 K P T pc L (.int v :: S) := by
  obtain ⟨p, l, e, R, s, m, args, below, meth, c⟩ := K
  obtain ⟨hx, hby, hml, hown, hret, hlk, hZ, rfl, hw⟩ := M
  obtain ⟨locs, X, hN, eT, hn, hcl, hsl⟩ := X
  obtain ⟨s2, o2, st, r⟩ := hr
  subst hp
  exact ⟨s2, o2, XS.istoreN X.here hx rfl (hb hby hd) rfl hl st, r⟩
theorem own_lload (M : own_Mx Z a0 K code own mx ret rm) (X : own_Sx n0 K T h cl sl) {k : Nat} {v : Int64} (hd : decode code pc = .ok (.lload k, 2)) (hl : L[k]? = some (.val (.long v))) (hp : pc + 2 = pc') (hr : own_Fin n0 K P T pc' L (.long v :: S)) : own_Fin n0 K P T pc L (S) := by
  obtain ⟨p, l, e, R, s, m, args, below, meth, c⟩ := K
  obtain ⟨hx, hby, hml, hown, hret, hlk, hZ, rfl, hw⟩ := M
  obtain ⟨locs, X, hN, eT, hn, hcl, hsl⟩ := X
  obtain ⟨s2, o2, st, r⟩ := hr
  subst hp
  exact ⟨s2, o2, XS.lload X.here hx rfl (hb hby hd) hl st, r⟩
theorem own_lloadN (M : own_Mx Z a0 K code own mx ret rm) (X : own_Sx n0 K T h cl sl) {k : Fin 4} {v : Int64} (hd : decode code pc = .ok (.lload_n k, 1)) (hl : L[k.val]? = some (.val (.long v))) (hp : pc + 1 = pc') (hr : own_Fin n0 K P T pc' L (.long v :: S)) : own_Fin n0 K P T pc L (S) := by
  obtain ⟨p, l, e, R, s, m, args, below, meth, c⟩ := K
  obtain ⟨hx, hby, hml, hown, hret, hlk, hZ, rfl, hw⟩ := M
  obtain ⟨locs, X, hN, eT, hn, hcl, hsl⟩ := X
  obtain ⟨s2, o2, st, r⟩ := hr
  subst hp
  exact ⟨s2, o2, XS.lloadN X.here hx rfl (hb hby hd) hl st, r⟩
theorem own_lstore (M : own_Mx Z a0 K code own mx ret rm) (X : own_Sx n0 K T h cl sl) {k : Nat} {v : Int64} (hd : decode code pc = .ok (.lstore k, 2)) (hl : storeLocals L k (.long v) = some L') (hp : pc + 2 = pc') (hr : own_Fin n0 K P T pc' L' (S)) : own_Fin n0 K P T pc L (.long v :: S) := by
  obtain ⟨p, l, e, R, s, m, args, below, meth, c⟩ := K
  obtain ⟨hx, hby, hml, hown, hret, hlk, hZ, rfl, hw⟩ := M
  obtain ⟨locs, X, hN, eT, hn, hcl, hsl⟩ := X
  obtain ⟨s2, o2, st, r⟩ := hr
  subst hp
  exact ⟨s2, o2, XS.lstore X.here hx rfl (hb hby hd) rfl hl st, r⟩
theorem own_lstoreN (M : own_Mx Z a0 K code own mx ret rm) (X : own_Sx n0 K T h cl sl) {k : Fin 4} {v : Int64} (hd : decode code pc = .ok (.lstore_n k, 1)) (hl : storeLocals L k.val (.long v) = some L') (hp : pc + 1 = pc') (hr : own_Fin n0 K P T pc' L' (S)) : own_Fin n0 K P T pc L (.long v :: S) := by
  obtain ⟨p, l, e, R, s, m, args, below, meth, c⟩ := K
  obtain ⟨hx, hby, hml, hown, hret, hlk, hZ, rfl, hw⟩ := M
  obtain ⟨locs, X, hN, eT, hn, hcl, hsl⟩ := X
  obtain ⟨s2, o2, st, r⟩ := hr
  subst hp
  exact ⟨s2, o2, XS.lstoreN X.here hx rfl (hb hby hd) rfl hl st, r⟩
theorem own_aload (M : own_Mx Z a0 K code own mx ret rm) (X : own_Sx n0 K T h cl sl) {k : Nat} {v : Value} (hd : decode code pc = .ok (.aload k, 2)) (hl : L[k]? = some (.val v)) (hv : v.isRef = true) (hp : pc + 2 = pc') (hr : own_Fin n0 K P T pc' L (v :: S)) : own_Fin n0 K P T pc L (S) := by
  obtain ⟨p, l, e, R, s, m, args, below, meth, c⟩ := K
  obtain ⟨hx, hby, hml, hown, hret, hlk, hZ, rfl, hw⟩ := M
  obtain ⟨locs, X, hN, eT, hn, hcl, hsl⟩ := X
  obtain ⟨s2, o2, st, r⟩ := hr
  subst hp
  exact ⟨s2, o2, XS.aload X.here hx rfl (hb hby hd) hl hv st, r⟩
theorem own_aloadN (M : own_Mx Z a0 K code own mx ret rm) (X : own_Sx n0 K T h cl sl) {k : Fin 4} {v : Value} (hd : decode code pc = .ok (.aload_n k, 1)) (hl : L[k.val]? = some (.val v)) (hv : v.isRef = true) (hp : pc + 1 = pc') (hr : own_Fin n0 K P T pc' L (v :: S)) : own_Fin n0 K P T pc L (S) := by
  obtain ⟨p, l, e, R, s, m, args, below, meth, c⟩ := K
  obtain ⟨hx, hby, hml, hown, hret, hlk, hZ, rfl, hw⟩ := M
  obtain ⟨locs, X, hN, eT, hn, hcl, hsl⟩ := X
  obtain ⟨s2, o2, st, r⟩ := hr
  subst hp
  exact ⟨s2, o2, XS.aloadN X.here hx rfl (hb hby hd) hl hv st, r⟩
theorem own_astore (M : own_Mx Z a0 K code own mx ret rm) (X : own_Sx n0 K T h cl sl) {k : Nat} {v : Value} (hd : decode code pc = .ok (.astore k, 2)) (hv : v.isRef = true) (hl : storeLocals L k v = some L') (hp : pc + 2 = pc') (hr : own_Fin n0 K P T pc' L' (S)) : own_Fin n0 K P T pc L (v :: S) := by
  obtain ⟨p, l, e, R, s, m, args, below, meth, c⟩ := K
  obtain ⟨hx, hby, hml, hown, hret, hlk, hZ, rfl, hw⟩ := M
  obtain ⟨locs, X, hN, eT, hn, hcl, hsl⟩ := X
  obtain ⟨s2, o2, st, r⟩ := hr
  subst hp
  exact ⟨s2, o2, XS.astore X.here hx rfl (hb hby hd) rfl hv hl st, r⟩
theorem own_astoreN (M : own_Mx Z a0 K code own mx ret rm) (X : own_Sx n0 K T h cl sl) {k : Fin 4} {v : Value} (hd : decode code pc = .ok (.astore_n k, 1)) (hv : v.isRef = true) (hl : storeLocals L k.val v = some L') (hp : pc + 1 = pc') (hr : own_Fin n0 K P T pc' L' (S)) : own_Fin n0 K P T pc L (v :: S) := by
  obtain ⟨p, l, e, R, s, m, args, below, meth, c⟩ := K
  obtain ⟨hx, hby, hml, hown, hret, hlk, hZ, rfl, hw⟩ := M
  obtain ⟨locs, X, hN, eT, hn, hcl, hsl⟩ := X
  obtain ⟨s2, o2, st, r⟩ := hr
  subst hp
  exact ⟨s2, o2, XS.astoreN X.here hx rfl (hb hby hd) rfl hv hl st, r⟩
theorem own_iconst (M : own_Mx Z a0 K code own mx ret rm) (X : own_Sx n0 K T h cl sl) {i : Int} {v : Int32} (hd : decode code pc = .ok (.iconst i, 1)) (hv : Int32.ofInt i = v) (hp : pc + 1 = pc') (hr : own_Fin n0 K P T pc' L (.int v :: S)) : own_Fin n0 K P T pc L (S) := by
  obtain ⟨p, l, e, R, s, m, args, below, meth, c⟩ := K
  obtain ⟨hx, hby, hml, hown, hret, hlk, hZ, rfl, hw⟩ := M
  obtain ⟨locs, X, hN, eT, hn, hcl, hsl⟩ := X
  obtain ⟨s2, o2, st, r⟩ := hr
  subst hp
  subst hv
  exact ⟨s2, o2, XS.iconst X.here hx rfl (hb hby hd) st, r⟩
theorem own_bipush (M : own_Mx Z a0 K code own mx ret rm) (X : own_Sx n0 K T h cl sl) {i : Int} {v : Int32} (hd : decode code pc = .ok (.bipush i, 2)) (hv : (Int8.ofInt i).toInt32 = v) (hp : pc + 2 = pc') (hr : own_Fin n0 K P T pc' L (.int v :: S)) : own_Fin n0 K P T pc L (S) := by
  obtain ⟨p, l, e, R, s, m, args, below, meth, c⟩ := K
  obtain ⟨hx, hby, hml, hown, hret, hlk, hZ, rfl, hw⟩ := M
  obtain ⟨locs, X, hN, eT, hn, hcl, hsl⟩ := X
  obtain ⟨s2, o2, st, r⟩ := hr
  subst hp
  subst hv
  exact ⟨s2, o2, XS.bipush X.here hx rfl (hb hby hd) st, r⟩
theorem own_sipush (M : own_Mx Z a0 K code own mx ret rm) (X : own_Sx n0 K T h cl sl) {i : Int} {v : Int32} (hd : decode code pc = .ok (.sipush i, 3)) (hv : (Int16.ofInt i).toInt32 = v) (hp : pc + 3 = pc') (hr : own_Fin n0 K P T pc' L (.int v :: S)) : own_Fin n0 K P T pc L (S) := by
  obtain ⟨p, l, e, R, s, m, args, below, meth, c⟩ := K
  obtain ⟨hx, hby, hml, hown, hret, hlk, hZ, rfl, hw⟩ := M
  obtain ⟨locs, X, hN, eT, hn, hcl, hsl⟩ := X
  obtain ⟨s2, o2, st, r⟩ := hr
  subst hp
  subst hv
  exact ⟨s2, o2, XS.sipush X.here hx rfl (hb hby hd) st, r⟩
theorem own_lconst (M : own_Mx Z a0 K code own mx ret rm) (X : own_Sx n0 K T h cl sl) {i : Fin 2} {v : Int64} (hd : decode code pc = .ok (.lconst i, 1)) (hv : Int64.ofNat i = v) (hp : pc + 1 = pc') (hr : own_Fin n0 K P T pc' L (.long v :: S)) : own_Fin n0 K P T pc L (S) := by
  obtain ⟨p, l, e, R, s, m, args, below, meth, c⟩ := K
  obtain ⟨hx, hby, hml, hown, hret, hlk, hZ, rfl, hw⟩ := M
  obtain ⟨locs, X, hN, eT, hn, hcl, hsl⟩ := X
  obtain ⟨s2, o2, st, r⟩ := hr
  subst hp
  subst hv
  exact ⟨s2, o2, XS.lconst X.here hx rfl (hb hby hd) st, r⟩
theorem own_aconst_null (M : own_Mx Z a0 K code own mx ret rm) (X : own_Sx n0 K T h cl sl)  (hd : decode code pc = .ok (.aconst_null, 1)) (hp : pc + 1 = pc') (hr : own_Fin n0 K P T pc' L (.null :: S)) : own_Fin n0 K P T pc L (S) := by
  obtain ⟨p, l, e, R, s, m, args, below, meth, c⟩ := K
  obtain ⟨hx, hby, hml, hown, hret, hlk, hZ, rfl, hw⟩ := M
  obtain ⟨locs, X, hN, eT, hn, hcl, hsl⟩ := X
  obtain ⟨s2, o2, st, r⟩ := hr
  subst hp
  exact ⟨s2, o2, XS.aconstNull X.here hx rfl (hb hby hd) st, r⟩
theorem own_iadd (M : own_Mx Z a0 K code own mx ret rm) (X : own_Sx n0 K T h cl sl) {x y : Int32} (hd : decode code pc = .ok (.iadd, 1)) (hp : pc + 1 = pc') (hr : own_Fin n0 K P T pc' L (.int (x + y) :: S)) : own_Fin n0 K P T pc L (.int y :: .int x :: S) := by
  obtain ⟨p, l, e, R, s, m, args, below, meth, c⟩ := K
  obtain ⟨hx, hby, hml, hown, hret, hlk, hZ, rfl, hw⟩ := M
  obtain ⟨locs, X, hN, eT, hn, hcl, hsl⟩ := X
  obtain ⟨s2, o2, st, r⟩ := hr
  subst hp
  exact ⟨s2, o2, XS.iadd X.here hx rfl (hb hby hd) rfl st, r⟩
theorem own_ladd (M : own_Mx Z a0 K code own mx ret rm) (X : own_Sx n0 K T h cl sl) {x y : Int64} (hd : decode code pc = .ok (.ladd, 1)) (hp : pc + 1 = pc') (hr : own_Fin n0 K P T pc' L (.long (x + y) :: S)) : own_Fin n0 K P T pc L (.long y :: .long x :: S) := by
  obtain ⟨p, l, e, R, s, m, args, below, meth, c⟩ := K
  obtain ⟨hx, hby, hml, hown, hret, hlk, hZ, rfl, hw⟩ := M
  obtain ⟨locs, X, hN, eT, hn, hcl, hsl⟩ := X
  obtain ⟨s2, o2, st, r⟩ := hr
  subst hp
  exact ⟨s2, o2, XS.ladd X.here hx rfl (hb hby hd) rfl st, r⟩
theorem own_isub (M : own_Mx Z a0 K code own mx ret rm) (X : own_Sx n0 K T h cl sl) {x y : Int32} (hd : decode code pc = .ok (.isub, 1)) (hp : pc + 1 = pc') (hr : own_Fin n0 K P T pc' L (.int (x - y) :: S)) : own_Fin n0 K P T pc L (.int y :: .int x :: S) := by
  obtain ⟨p, l, e, R, s, m, args, below, meth, c⟩ := K
  obtain ⟨hx, hby, hml, hown, hret, hlk, hZ, rfl, hw⟩ := M
  obtain ⟨locs, X, hN, eT, hn, hcl, hsl⟩ := X
  obtain ⟨s2, o2, st, r⟩ := hr
  subst hp
  exact ⟨s2, o2, XS.isub X.here hx rfl (hb hby hd) rfl st, r⟩
theorem own_lsub (M : own_Mx Z a0 K code own mx ret rm) (X : own_Sx n0 K T h cl sl) {x y : Int64} (hd : decode code pc = .ok (.lsub, 1)) (hp : pc + 1 = pc') (hr : own_Fin n0 K P T pc' L (.long (x - y) :: S)) : own_Fin n0 K P T pc L (.long y :: .long x :: S) := by
  obtain ⟨p, l, e, R, s, m, args, below, meth, c⟩ := K
  obtain ⟨hx, hby, hml, hown, hret, hlk, hZ, rfl, hw⟩ := M
  obtain ⟨locs, X, hN, eT, hn, hcl, hsl⟩ := X
  obtain ⟨s2, o2, st, r⟩ := hr
  subst hp
  exact ⟨s2, o2, XS.lsub X.here hx rfl (hb hby hd) rfl st, r⟩
theorem own_imul (M : own_Mx Z a0 K code own mx ret rm) (X : own_Sx n0 K T h cl sl) {x y : Int32} (hd : decode code pc = .ok (.imul, 1)) (hp : pc + 1 = pc') (hr : own_Fin n0 K P T pc' L (.int (x * y) :: S)) : own_Fin n0 K P T pc L (.int y :: .int x :: S) := by
  obtain ⟨p, l, e, R, s, m, args, below, meth, c⟩ := K
  obtain ⟨hx, hby, hml, hown, hret, hlk, hZ, rfl, hw⟩ := M
  obtain ⟨locs, X, hN, eT, hn, hcl, hsl⟩ := X
  obtain ⟨s2, o2, st, r⟩ := hr
  subst hp
  exact ⟨s2, o2, XS.imul X.here hx rfl (hb hby hd) rfl st, r⟩
theorem own_lmul (M : own_Mx Z a0 K code own mx ret rm) (X : own_Sx n0 K T h cl sl) {x y : Int64} (hd : decode code pc = .ok (.lmul, 1)) (hp : pc + 1 = pc') (hr : own_Fin n0 K P T pc' L (.long (x * y) :: S)) : own_Fin n0 K P T pc L (.long y :: .long x :: S) := by
  obtain ⟨p, l, e, R, s, m, args, below, meth, c⟩ := K
  obtain ⟨hx, hby, hml, hown, hret, hlk, hZ, rfl, hw⟩ := M
  obtain ⟨locs, X, hN, eT, hn, hcl, hsl⟩ := X
  obtain ⟨s2, o2, st, r⟩ := hr
  subst hp
  exact ⟨s2, o2, XS.lmul X.here hx rfl (hb hby hd) rfl st, r⟩
theorem own_iand (M : own_Mx Z a0 K code own mx ret rm) (X : own_Sx n0 K T h cl sl) {x y : Int32} (hd : decode code pc = .ok (.iand, 1)) (hp : pc + 1 = pc') (hr : own_Fin n0 K P T pc' L (.int (x &&& y) :: S)) : own_Fin n0 K P T pc L (.int y :: .int x :: S) := by
  obtain ⟨p, l, e, R, s, m, args, below, meth, c⟩ := K
  obtain ⟨hx, hby, hml, hown, hret, hlk, hZ, rfl, hw⟩ := M
  obtain ⟨locs, X, hN, eT, hn, hcl, hsl⟩ := X
  obtain ⟨s2, o2, st, r⟩ := hr
  subst hp
  exact ⟨s2, o2, XS.iand X.here hx rfl (hb hby hd) rfl st, r⟩
theorem own_land (M : own_Mx Z a0 K code own mx ret rm) (X : own_Sx n0 K T h cl sl) {x y : Int64} (hd : decode code pc = .ok (.land, 1)) (hp : pc + 1 = pc') (hr : own_Fin n0 K P T pc' L (.long (x &&& y) :: S)) : own_Fin n0 K P T pc L (.long y :: .long x :: S) := by
  obtain ⟨p, l, e, R, s, m, args, below, meth, c⟩ := K
  obtain ⟨hx, hby, hml, hown, hret, hlk, hZ, rfl, hw⟩ := M
  obtain ⟨locs, X, hN, eT, hn, hcl, hsl⟩ := X
  obtain ⟨s2, o2, st, r⟩ := hr
  subst hp
  exact ⟨s2, o2, XS.land X.here hx rfl (hb hby hd) rfl st, r⟩
theorem own_ior (M : own_Mx Z a0 K code own mx ret rm) (X : own_Sx n0 K T h cl sl) {x y : Int32} (hd : decode code pc = .ok (.ior, 1)) (hp : pc + 1 = pc') (hr : own_Fin n0 K P T pc' L (.int (x ||| y) :: S)) : own_Fin n0 K P T pc L (.int y :: .int x :: S) := by
  obtain ⟨p, l, e, R, s, m, args, below, meth, c⟩ := K
  obtain ⟨hx, hby, hml, hown, hret, hlk, hZ, rfl, hw⟩ := M
  obtain ⟨locs, X, hN, eT, hn, hcl, hsl⟩ := X
  obtain ⟨s2, o2, st, r⟩ := hr
  subst hp
  exact ⟨s2, o2, XS.ior X.here hx rfl (hb hby hd) rfl st, r⟩
theorem own_lor (M : own_Mx Z a0 K code own mx ret rm) (X : own_Sx n0 K T h cl sl) {x y : Int64} (hd : decode code pc = .ok (.lor, 1)) (hp : pc + 1 = pc') (hr : own_Fin n0 K P T pc' L (.long (x ||| y) :: S)) : own_Fin n0 K P T pc L (.long y :: .long x :: S) := by
  obtain ⟨p, l, e, R, s, m, args, below, meth, c⟩ := K
  obtain ⟨hx, hby, hml, hown, hret, hlk, hZ, rfl, hw⟩ := M
  obtain ⟨locs, X, hN, eT, hn, hcl, hsl⟩ := X
  obtain ⟨s2, o2, st, r⟩ := hr
  subst hp
  exact ⟨s2, o2, XS.lor X.here hx rfl (hb hby hd) rfl st, r⟩
theorem own_ixor (M : own_Mx Z a0 K code own mx ret rm) (X : own_Sx n0 K T h cl sl) {x y : Int32} (hd : decode code pc = .ok (.ixor, 1)) (hp : pc + 1 = pc') (hr : own_Fin n0 K P T pc' L (.int (x ^^^ y) :: S)) : own_Fin n0 K P T pc L (.int y :: .int x :: S) := by
  obtain ⟨p, l, e, R, s, m, args, below, meth, c⟩ := K
  obtain ⟨hx, hby, hml, hown, hret, hlk, hZ, rfl, hw⟩ := M
  obtain ⟨locs, X, hN, eT, hn, hcl, hsl⟩ := X
  obtain ⟨s2, o2, st, r⟩ := hr
  subst hp
  exact ⟨s2, o2, XS.ixor X.here hx rfl (hb hby hd) rfl st, r⟩
theorem own_lxor (M : own_Mx Z a0 K code own mx ret rm) (X : own_Sx n0 K T h cl sl) {x y : Int64} (hd : decode code pc = .ok (.lxor, 1)) (hp : pc + 1 = pc') (hr : own_Fin n0 K P T pc' L (.long (x ^^^ y) :: S)) : own_Fin n0 K P T pc L (.long y :: .long x :: S) := by
  obtain ⟨p, l, e, R, s, m, args, below, meth, c⟩ := K
  obtain ⟨hx, hby, hml, hown, hret, hlk, hZ, rfl, hw⟩ := M
  obtain ⟨locs, X, hN, eT, hn, hcl, hsl⟩ := X
  obtain ⟨s2, o2, st, r⟩ := hr
  subst hp
  exact ⟨s2, o2, XS.lxor X.here hx rfl (hb hby hd) rfl st, r⟩
theorem own_ishl (M : own_Mx Z a0 K code own mx ret rm) (X : own_Sx n0 K T h cl sl) {x y : Int32} (hd : decode code pc = .ok (.ishl, 1)) (hp : pc + 1 = pc') (hr : own_Fin n0 K P T pc' L (.int (x <<< (y &&& 31)) :: S)) : own_Fin n0 K P T pc L (.int y :: .int x :: S) := by
  obtain ⟨p, l, e, R, s, m, args, below, meth, c⟩ := K
  obtain ⟨hx, hby, hml, hown, hret, hlk, hZ, rfl, hw⟩ := M
  obtain ⟨locs, X, hN, eT, hn, hcl, hsl⟩ := X
  obtain ⟨s2, o2, st, r⟩ := hr
  subst hp
  exact ⟨s2, o2, XS.ishl X.here hx rfl (hb hby hd) rfl st, r⟩
theorem own_ishr (M : own_Mx Z a0 K code own mx ret rm) (X : own_Sx n0 K T h cl sl) {x y : Int32} (hd : decode code pc = .ok (.ishr, 1)) (hp : pc + 1 = pc') (hr : own_Fin n0 K P T pc' L (.int (x >>> (y &&& 31)) :: S)) : own_Fin n0 K P T pc L (.int y :: .int x :: S) := by
  obtain ⟨p, l, e, R, s, m, args, below, meth, c⟩ := K
  obtain ⟨hx, hby, hml, hown, hret, hlk, hZ, rfl, hw⟩ := M
  obtain ⟨locs, X, hN, eT, hn, hcl, hsl⟩ := X
  obtain ⟨s2, o2, st, r⟩ := hr
  subst hp
  exact ⟨s2, o2, XS.ishr X.here hx rfl (hb hby hd) rfl st, r⟩
theorem own_iushr (M : own_Mx Z a0 K code own mx ret rm) (X : own_Sx n0 K T h cl sl) {x y : Int32} (hd : decode code pc = .ok (.iushr, 1)) (hp : pc + 1 = pc') (hr : own_Fin n0 K P T pc' L (.int ((x.toUInt32 >>> (y &&& 31).toUInt32).toInt32) :: S)) : own_Fin n0 K P T pc L (.int y :: .int x :: S) := by
  obtain ⟨p, l, e, R, s, m, args, below, meth, c⟩ := K
  obtain ⟨hx, hby, hml, hown, hret, hlk, hZ, rfl, hw⟩ := M
  obtain ⟨locs, X, hN, eT, hn, hcl, hsl⟩ := X
  obtain ⟨s2, o2, st, r⟩ := hr
  subst hp
  exact ⟨s2, o2, XS.iushr X.here hx rfl (hb hby hd) rfl st, r⟩
theorem own_lshl (M : own_Mx Z a0 K code own mx ret rm) (X : own_Sx n0 K T h cl sl) {x : Int64} {y : Int32} (hd : decode code pc = .ok (.lshl, 1)) (hp : pc + 1 = pc') (hr : own_Fin n0 K P T pc' L (.long (x <<< (y &&& 0x3f).toInt64) :: S)) : own_Fin n0 K P T pc L (.int y :: .long x :: S) := by
  obtain ⟨p, l, e, R, s, m, args, below, meth, c⟩ := K
  obtain ⟨hx, hby, hml, hown, hret, hlk, hZ, rfl, hw⟩ := M
  obtain ⟨locs, X, hN, eT, hn, hcl, hsl⟩ := X
  obtain ⟨s2, o2, st, r⟩ := hr
  subst hp
  exact ⟨s2, o2, XS.lshl X.here hx rfl (hb hby hd) rfl st, r⟩
theorem own_lshr (M : own_Mx Z a0 K code own mx ret rm) (X : own_Sx n0 K T h cl sl) {x : Int64} {y : Int32} (hd : decode code pc = .ok (.lshr, 1)) (hp : pc + 1 = pc') (hr : own_Fin n0 K P T pc' L (.long (x >>> (y &&& 0x3f).toInt64) :: S)) : own_Fin n0 K P T pc L (.int y :: .long x :: S) := by
  obtain ⟨p, l, e, R, s, m, args, below, meth, c⟩ := K
  obtain ⟨hx, hby, hml, hown, hret, hlk, hZ, rfl, hw⟩ := M
  obtain ⟨locs, X, hN, eT, hn, hcl, hsl⟩ := X
  obtain ⟨s2, o2, st, r⟩ := hr
  subst hp
  exact ⟨s2, o2, XS.lshr X.here hx rfl (hb hby hd) rfl st, r⟩
theorem own_lushr (M : own_Mx Z a0 K code own mx ret rm) (X : own_Sx n0 K T h cl sl) {x : Int64} {y : Int32} (hd : decode code pc = .ok (.lushr, 1)) (hp : pc + 1 = pc') (hr : own_Fin n0 K P T pc' L (.long ((x.toUInt64 >>> (y &&& 0x3f).toInt64.toUInt64).toInt64) :: S)) : own_Fin n0 K P T pc L (.int y :: .long x :: S) := by
  obtain ⟨p, l, e, R, s, m, args, below, meth, c⟩ := K
  obtain ⟨hx, hby, hml, hown, hret, hlk, hZ, rfl, hw⟩ := M
  obtain ⟨locs, X, hN, eT, hn, hcl, hsl⟩ := X
  obtain ⟨s2, o2, st, r⟩ := hr
  subst hp
  exact ⟨s2, o2, XS.lushr X.here hx rfl (hb hby hd) rfl st, r⟩
theorem own_idiv (M : own_Mx Z a0 K code own mx ret rm) (X : own_Sx n0 K T h cl sl) {x y : Int32} (hd : decode code pc = .ok (.idiv, 1)) (hy : y ≠ 0) (hp : pc + 1 = pc') (hr : own_Fin n0 K P T pc' L (.int (x / y) :: S)) : own_Fin n0 K P T pc L (.int y :: .int x :: S) := by
  obtain ⟨p, l, e, R, s, m, args, below, meth, c⟩ := K
  obtain ⟨hx, hby, hml, hown, hret, hlk, hZ, rfl, hw⟩ := M
  obtain ⟨locs, X, hN, eT, hn, hcl, hsl⟩ := X
  obtain ⟨s2, o2, st, r⟩ := hr
  subst hp
  exact ⟨s2, o2, XS.idiv X.here hx rfl (hb hby hd) rfl hy st, r⟩
theorem own_irem (M : own_Mx Z a0 K code own mx ret rm) (X : own_Sx n0 K T h cl sl) {x y : Int32} (hd : decode code pc = .ok (.irem, 1)) (hy : y ≠ 0) (hp : pc + 1 = pc') (hr : own_Fin n0 K P T pc' L (.int (x % y) :: S)) : own_Fin n0 K P T pc L (.int y :: .int x :: S) := by
  obtain ⟨p, l, e, R, s, m, args, below, meth, c⟩ := K
  obtain ⟨hx, hby, hml, hown, hret, hlk, hZ, rfl, hw⟩ := M
  obtain ⟨locs, X, hN, eT, hn, hcl, hsl⟩ := X
  obtain ⟨s2, o2, st, r⟩ := hr
  subst hp
  exact ⟨s2, o2, iremM X hx rfl (hb hby hd) rfl hy st, r⟩
theorem own_ldiv (M : own_Mx Z a0 K code own mx ret rm) (X : own_Sx n0 K T h cl sl) {x y : Int64} (hd : decode code pc = .ok (.ldiv, 1)) (hy : y ≠ 0) (hp : pc + 1 = pc') (hr : own_Fin n0 K P T pc' L (.long (x / y) :: S)) : own_Fin n0 K P T pc L (.long y :: .long x :: S) := by
  obtain ⟨p, l, e, R, s, m, args, below, meth, c⟩ := K
  obtain ⟨hx, hby, hml, hown, hret, hlk, hZ, rfl, hw⟩ := M
  obtain ⟨locs, X, hN, eT, hn, hcl, hsl⟩ := X
  obtain ⟨s2, o2, st, r⟩ := hr
  subst hp
  exact ⟨s2, o2, XS.ldiv X.here hx rfl (hb hby hd) rfl hy st, r⟩
theorem own_lrem (M : own_Mx Z a0 K code own mx ret rm) (X : own_Sx n0 K T h cl sl) {x y : Int64} (hd : decode code pc = .ok (.lrem, 1)) (hy : y ≠ 0) (hp : pc + 1 = pc') (hr : own_Fin n0 K P T pc' L (.long (x - (x / y) * y) :: S)) : own_Fin n0 K P T pc L (.long y :: .long x :: S) := by
  obtain ⟨p, l, e, R, s, m, args, below, meth, c⟩ := K
  obtain ⟨hx, hby, hml, hown, hret, hlk, hZ, rfl, hw⟩ := M
  obtain ⟨locs, X, hN, eT, hn, hcl, hsl⟩ := X
  obtain ⟨s2, o2, st, r⟩ := hr
  subst hp
  exact ⟨s2, o2, XS.lrem X.here hx rfl (hb hby hd) rfl hy st, r⟩
theorem own_ineg (M : own_Mx Z a0 K code own mx ret rm) (X : own_Sx n0 K T h cl sl) {x : Int32} (hd : decode code pc = .ok (.ineg, 1)) (hp : pc + 1 = pc') (hr : own_Fin n0 K P T pc' L (.int (-x) :: S)) : own_Fin n0 K P T pc L (.int x :: S) := by
  obtain ⟨p, l, e, R, s, m, args, below, meth, c⟩ := K
  obtain ⟨hx, hby, hml, hown, hret, hlk, hZ, rfl, hw⟩ := M
  obtain ⟨locs, X, hN, eT, hn, hcl, hsl⟩ := X
  obtain ⟨s2, o2, st, r⟩ := hr
  subst hp
  exact ⟨s2, o2, XS.ineg X.here hx rfl (hb hby hd) rfl st, r⟩
theorem own_lneg (M : own_Mx Z a0 K code own mx ret rm) (X : own_Sx n0 K T h cl sl) {x : Int64} (hd : decode code pc = .ok (.lneg, 1)) (hp : pc + 1 = pc') (hr : own_Fin n0 K P T pc' L (.long (-x) :: S)) : own_Fin n0 K P T pc L (.long x :: S) := by
  obtain ⟨p, l, e, R, s, m, args, below, meth, c⟩ := K
  obtain ⟨hx, hby, hml, hown, hret, hlk, hZ, rfl, hw⟩ := M
  obtain ⟨locs, X, hN, eT, hn, hcl, hsl⟩ := X
  obtain ⟨s2, o2, st, r⟩ := hr
  subst hp
  exact ⟨s2, o2, XS.lneg X.here hx rfl (hb hby hd) rfl st, r⟩
theorem own_i2l (M : own_Mx Z a0 K code own mx ret rm) (X : own_Sx n0 K T h cl sl) {x : Int32} (hd : decode code pc = .ok (.i2l, 1)) (hp : pc + 1 = pc') (hr : own_Fin n0 K P T pc' L (.long (x.toInt64) :: S)) : own_Fin n0 K P T pc L (.int x :: S) := by
  obtain ⟨p, l, e, R, s, m, args, below, meth, c⟩ := K
  obtain ⟨hx, hby, hml, hown, hret, hlk, hZ, rfl, hw⟩ := M
  obtain ⟨locs, X, hN, eT, hn, hcl, hsl⟩ := X
  obtain ⟨s2, o2, st, r⟩ := hr
  subst hp
  exact ⟨s2, o2, XS.i2l X.here hx rfl (hb hby hd) rfl st, r⟩
theorem own_l2i (M : own_Mx Z a0 K code own mx ret rm) (X : own_Sx n0 K T h cl sl) {x : Int64} (hd : decode code pc = .ok (.l2i, 1)) (hp : pc + 1 = pc') (hr : own_Fin n0 K P T pc' L (.int (x.toInt32) :: S)) : own_Fin n0 K P T pc L (.long x :: S) := by
  obtain ⟨p, l, e, R, s, m, args, below, meth, c⟩ := K
  obtain ⟨hx, hby, hml, hown, hret, hlk, hZ, rfl, hw⟩ := M
  obtain ⟨locs, X, hN, eT, hn, hcl, hsl⟩ := X
  obtain ⟨s2, o2, st, r⟩ := hr
  subst hp
  exact ⟨s2, o2, XS.l2i X.here hx rfl (hb hby hd) rfl st, r⟩
theorem own_i2b (M : own_Mx Z a0 K code own mx ret rm) (X : own_Sx n0 K T h cl sl) {x : Int32} (hd : decode code pc = .ok (.i2b, 1)) (hp : pc + 1 = pc') (hr : own_Fin n0 K P T pc' L (.int (x.toInt8.toInt32) :: S)) : own_Fin n0 K P T pc L (.int x :: S) := by
  obtain ⟨p, l, e, R, s, m, args, below, meth, c⟩ := K
  obtain ⟨hx, hby, hml, hown, hret, hlk, hZ, rfl, hw⟩ := M
  obtain ⟨locs, X, hN, eT, hn, hcl, hsl⟩ := X
  obtain ⟨s2, o2, st, r⟩ := hr
  subst hp
  exact ⟨s2, o2, XS.i2b X.here hx rfl (hb hby hd) rfl st, r⟩
theorem own_i2s (M : own_Mx Z a0 K code own mx ret rm) (X : own_Sx n0 K T h cl sl) {x : Int32} (hd : decode code pc = .ok (.i2s, 1)) (hp : pc + 1 = pc') (hr : own_Fin n0 K P T pc' L (.int (x.toInt16.toInt32) :: S)) : own_Fin n0 K P T pc L (.int x :: S) := by
  obtain ⟨p, l, e, R, s, m, args, below, meth, c⟩ := K
  obtain ⟨hx, hby, hml, hown, hret, hlk, hZ, rfl, hw⟩ := M
  obtain ⟨locs, X, hN, eT, hn, hcl, hsl⟩ := X
  obtain ⟨s2, o2, st, r⟩ := hr
  subst hp
  exact ⟨s2, o2, XS.i2s X.here hx rfl (hb hby hd) rfl st, r⟩
theorem own_i2c (M : own_Mx Z a0 K code own mx ret rm) (X : own_Sx n0 K T h cl sl) {x : Int32} (hd : decode code pc = .ok (.i2c, 1)) (hp : pc + 1 = pc') (hr : own_Fin n0 K P T pc' L (.int (x.toUInt32.toUInt16.toUInt32.toInt32) :: S)) : own_Fin n0 K P T pc L (.int x :: S) := by
  obtain ⟨p, l, e, R, s, m, args, below, meth, c⟩ := K
  obtain ⟨hx, hby, hml, hown, hret, hlk, hZ, rfl, hw⟩ := M
  obtain ⟨locs, X, hN, eT, hn, hcl, hsl⟩ := X
  obtain ⟨s2, o2, st, r⟩ := hr
  subst hp
  exact ⟨s2, o2, XS.i2c X.here hx rfl (hb hby hd) rfl st, r⟩
theorem own_iinc (M : own_Mx Z a0 K code own mx ret rm) (X : own_Sx n0 K T h cl sl) {k : Nat} {i : Int} {x v : Int32} (hd : decode code pc = .ok (.iinc k i, 3)) (hl : L[k]? = some (.val (.int x))) (hv : x + Int32.ofInt i = v) (hl' : storeLocals L k (.int v) = some L') (hp : pc + 3 = pc') (hr : own_Fin n0 K P T pc' L' (S)) : own_Fin n0 K P T pc L (S) := by
  obtain ⟨p, l, e, R, s, m, args, below, meth, c⟩ := K
  obtain ⟨hx, hby, hml, hown, hret, hlk, hZ, rfl, hw⟩ := M
  obtain ⟨locs, X, hN, eT, hn, hcl, hsl⟩ := X
  obtain ⟨s2, o2, st, r⟩ := hr
  subst hp
  subst hv
  exact ⟨s2, o2, XS.iinc X.here hx rfl (hb hby hd) hl hl' st, r⟩
theorem own_dup (M : own_Mx Z a0 K code own mx ret rm) (X : own_Sx n0 K T h cl sl) {v : Value} (hd : decode code pc = .ok (.dup, 1)) (hc : v.category = 1) (hp : pc + 1 = pc') (hr : own_Fin n0 K P T pc' L (v :: v :: S)) : own_Fin n0 K P T pc L (v :: S) := by
  obtain ⟨p, l, e, R, s, m, args, below, meth, c⟩ := K
  obtain ⟨hx, hby, hml, hown, hret, hlk, hZ, rfl, hw⟩ := M
  obtain ⟨locs, X, hN, eT, hn, hcl, hsl⟩ := X
  obtain ⟨s2, o2, st, r⟩ := hr
  subst hp
  exact ⟨s2, o2, XS.dup X.here hx rfl (hb hby hd) rfl hc st, r⟩
theorem own_pop (M : own_Mx Z a0 K code own mx ret rm) (X : own_Sx n0 K T h cl sl) {v : Value} (hd : decode code pc = .ok (.pop, 1)) (hc : v.category = 1) (hp : pc + 1 = pc') (hr : own_Fin n0 K P T pc' L (S)) : own_Fin n0 K P T pc L (v :: S) := by
  obtain ⟨p, l, e, R, s, m, args, below, meth, c⟩ := K
  obtain ⟨hx, hby, hml, hown, hret, hlk, hZ, rfl, hw⟩ := M
  obtain ⟨locs, X, hN, eT, hn, hcl, hsl⟩ := X
  obtain ⟨s2, o2, st, r⟩ := hr
  subst hp
  exact ⟨s2, o2, XS.pop X.here hx rfl (hb hby hd) rfl hc st, r⟩
theorem own_dup_x1 (M : own_Mx Z a0 K code own mx ret rm) (X : own_Sx n0 K T h cl sl) {v w : Value} (hd : decode code pc = .ok (.dup_x1, 1)) (hc : v.category = 1) (hc' : w.category = 1) (hp : pc + 1 = pc') (hr : own_Fin n0 K P T pc' L (v :: w :: v :: S)) : own_Fin n0 K P T pc L (v :: w :: S) := by
  obtain ⟨p, l, e, R, s, m, args, below, meth, c⟩ := K
  obtain ⟨hx, hby, hml, hown, hret, hlk, hZ, rfl, hw⟩ := M
  obtain ⟨locs, X, hN, eT, hn, hcl, hsl⟩ := X
  obtain ⟨s2, o2, st, r⟩ := hr
  subst hp
  exact ⟨s2, o2, XS.dupX1 X.here hx rfl (hb hby hd) rfl hc hc' st, r⟩
theorem own_dup2 (M : own_Mx Z a0 K code own mx ret rm) (X : own_Sx n0 K T h cl sl) {v w : Value} (hd : decode code pc = .ok (.dup2, 1)) (hc : v.category = 1) (hc' : w.category = 1) (hp : pc + 1 = pc') (hr : own_Fin n0 K P T pc' L (v :: w :: v :: w :: S)) : own_Fin n0 K P T pc L (v :: w :: S) := by
  obtain ⟨p, l, e, R, s, m, args, below, meth, c⟩ := K
  obtain ⟨hx, hby, hml, hown, hret, hlk, hZ, rfl, hw⟩ := M
  obtain ⟨locs, X, hN, eT, hn, hcl, hsl⟩ := X
  obtain ⟨s2, o2, st, r⟩ := hr
  subst hp
  exact ⟨s2, o2, XT.dup2 X.here hx rfl (hb hby hd) rfl hc hc' st, r⟩
theorem own_goto (M : own_Mx Z a0 K code own mx ret rm) (X : own_Sx n0 K T h cl sl) {o : Int} (hd : decode code pc = .ok (.goto o, 3)) (ho : 0 ≤ (pc : Int) + o) (hp : ((pc : Int) + o).toNat = pc') (hr : own_Fin n0 K P T pc' L S) : own_Fin n0 K P T pc L S := by
  obtain ⟨p, l, e, R, s, m, args, below, meth, c⟩ := K
  obtain ⟨hx, hby, hml, hown, hret, hlk, hZ, rfl, hw⟩ := M
  obtain ⟨locs, X, hN, eT, hn, hcl, hsl⟩ := X
  obtain ⟨s2, o2, st, r⟩ := hr
  exact ⟨s2, o2, XS.goto X.here hx rfl (pc0 := pc) rfl (hb hby hd) ho hp st, r⟩
theorem own_ldc (M : own_Mx Z a0 K code own mx ret rm) (X : own_Sx n0 K T h cl sl) {k : Nat} {v : Int32} (w : (Jvm.Cond.constant own k v).before a0 Z = true) (hd : decode code pc = .ok (.ldc k, 2)) (hp : pc + 2 = pc') (hr : own_Fin n0 K P T pc' L (.int v :: S)) : own_Fin n0 K P T pc L (S) := by
  obtain ⟨p, l, e, R, s, m, args, below, meth, c⟩ := K
  obtain ⟨hx, hby, hml, hown, hret, hlk, hZ, rfl, hw⟩ := M
  obtain ⟨locs, X, hN, eT, hn, hcl, hsl⟩ := X
  obtain ⟨s2, o2, st, r⟩ := hr
  subst hp
  exact ⟨s2, o2, X.ldcInt hx hown (mvT hZ w) (g := mkF m pc L S) rfl (hb hby hd) _ st, r⟩
theorem own_ldc_w (M : own_Mx Z a0 K code own mx ret rm) (X : own_Sx n0 K T h cl sl) {k : Nat} {v : Int32} (w : (Jvm.Cond.constant own k v).before a0 Z = true) (hd : decode code pc = .ok (.ldc_w k, 3)) (hp : pc + 3 = pc') (hr : own_Fin n0 K P T pc' L (.int v :: S)) : own_Fin n0 K P T pc L (S) := by
  obtain ⟨p, l, e, R, s, m, args, below, meth, c⟩ := K
  obtain ⟨hx, hby, hml, hown, hret, hlk, hZ, rfl, hw⟩ := M
  obtain ⟨locs, X, hN, eT, hn, hcl, hsl⟩ := X
  obtain ⟨s2, o2, st, r⟩ := hr
  subst hp
  exact ⟨s2, o2, X.ldcwInt hx hown (mvT hZ w) (g := mkF m pc L S) rfl (hb hby hd) _ st, r⟩
theorem own_ldc2_w (M : own_Mx Z a0 K code own mx ret rm) (X : own_Sx n0 K T h cl sl) {k : Nat} {v : Int64} (w : (Jvm.Cond.constantLong own k v).before a0 Z = true) (hd : decode code pc = .ok (.ldc2_w k, 3)) (hp : pc + 3 = pc') (hr : own_Fin n0 K P T pc' L (.long v :: S)) : own_Fin n0 K P T pc L (S) := by
  obtain ⟨p, l, e, R, s, m, args, below, meth, c⟩ := K
  obtain ⟨hx, hby, hml, hown, hret, hlk, hZ, rfl, hw⟩ := M
  obtain ⟨locs, X, hN, eT, hn, hcl, hsl⟩ := X
  obtain ⟨s2, o2, st, r⟩ := hr
  subst hp
  exact ⟨s2, o2, X.ldc2Long hx hown (mvT hZ w) (g := mkF m pc L S) rfl (hb hby hd) _ st, r⟩
theorem own_icmp_lt (M : own_Mx Z a0 K code own mx ret rm) (X : own_Sx n0 K T h cl sl) {x y : Int32} {o : Int} {pcY pcN : Nat} (hd : decode code pc = .ok (.if_icmp .lt o, 3)) (ho : 0 ≤ (pc : Int) + o) (hY : ((pc : Int) + o).toNat = pcY) (hpN : pc + 3 = pcN) (yes : x < y → own_Fin n0 K P T pcY L S) (no : ¬ x < y → own_Fin n0 K P T pcN L S) : own_Fin n0 K P T pc L (.int y :: .int x :: S) := by
  obtain ⟨p, l, e, R, s, m, args, below, meth, c⟩ := K
  obtain ⟨hx, hby, hml, hown, hret, hlk, hZ, rfl, hw⟩ := M
  obtain ⟨locs, X, hN, eT, hn, hcl, hsl⟩ := X
  subst hpN
  by_cases q : x < y
  · obtain ⟨s2, o2, st, r⟩ := yes q
    exact ⟨s2, o2, XS.icmpYes X.here hx rfl (pc0 := pc) rfl (hb hby hd) rfl (tlt q).1 ho hY st, r⟩
  · obtain ⟨s2, o2, st, r⟩ := no q
    exact ⟨s2, o2, XS.icmpNo X.here hx rfl (hb hby hd) rfl (flt q).1 st, r⟩
theorem own_if_lt (M : own_Mx Z a0 K code own mx ret rm) (X : own_Sx n0 K T h cl sl) {x : Int32} {o : Int} {pcY pcN : Nat} (hd : decode code pc = .ok (.ifCond .lt o, 3)) (ho : 0 ≤ (pc : Int) + o) (hY : ((pc : Int) + o).toNat = pcY) (hpN : pc + 3 = pcN) (yes : x < 0 → own_Fin n0 K P T pcY L S) (no : ¬ x < 0 → own_Fin n0 K P T pcN L S) : own_Fin n0 K P T pc L (.int x :: S) := by
  obtain ⟨p, l, e, R, s, m, args, below, meth, c⟩ := K
  obtain ⟨hx, hby, hml, hown, hret, hlk, hZ, rfl, hw⟩ := M
  obtain ⟨locs, X, hN, eT, hn, hcl, hsl⟩ := X
  subst hpN
  by_cases q : x < 0
  · obtain ⟨s2, o2, st, r⟩ := yes q
    exact ⟨s2, o2, XS.ifYes X.here hx rfl (pc0 := pc) rfl (hb hby hd) rfl ((if0 _ _).trans (tlt q).1) ho hY st, r⟩
  · obtain ⟨s2, o2, st, r⟩ := no q
    exact ⟨s2, o2, XS.ifNo X.here hx rfl (hb hby hd) rfl ((if0 _ _).trans (flt q).1) st, r⟩
theorem own_lcmp_lt (M : own_Mx Z a0 K code own mx ret rm) (X : own_Sx n0 K T h cl sl) {x y : Int64} {pc1 : Nat} {o : Int} {pcY pcN : Nat} (hdc : decode code pc = .ok (.lcmp, 1)) (h1 : pc + 1 = pc1) (hd : decode code pc1 = .ok (.ifCond .lt o, 3)) (ho : 0 ≤ (pc1 : Int) + o) (hY : ((pc1 : Int) + o).toNat = pcY) (hpN : pc1 + 3 = pcN) (yes : x < y → own_Fin n0 K P T pcY L S) (no : ¬ x < y → own_Fin n0 K P T pcN L S) : own_Fin n0 K P T pc L (.long y :: .long x :: S) := by
  obtain ⟨p, l, e, R, s, m, args, below, meth, c⟩ := K
  obtain ⟨hx, hby, hml, hown, hret, hlk, hZ, rfl, hw⟩ := M
  obtain ⟨locs, X, hN, eT, hn, hcl, hsl⟩ := X
  subst hpN h1
  by_cases q : x < y
  · obtain ⟨s2, o2, st, r⟩ := yes q
    exact ⟨s2, o2, XS.lcmp X.here hx rfl (hb hby hdc) rfl (XS.ifYes (g := mkF m (pc + 1) L (.int (lcmpW x y) :: S)) X.here hx rfl (pc0 := pc + 1) rfl (hb hby hd) rfl ((if0 _ _).trans (tlt ((lw_lt x y).mpr q)).1) ho hY st), r⟩
  · obtain ⟨s2, o2, st, r⟩ := no q
    exact ⟨s2, o2, XS.lcmp X.here hx rfl (hb hby hdc) rfl (XS.ifNo (g := mkF m (pc + 1) L (.int (lcmpW x y) :: S)) X.here hx rfl (hb hby hd) rfl ((if0 _ _).trans (flt (fun z => q ((lw_lt x y).mp z))).1) st), r⟩
theorem own_icmp_ge (M : own_Mx Z a0 K code own mx ret rm) (X : own_Sx n0 K T h cl sl) {x y : Int32} {o : Int} {pcY pcN : Nat} (hd : decode code pc = .ok (.if_icmp .ge o, 3)) (ho : 0 ≤ (pc : Int) + o) (hY : ((pc : Int) + o).toNat = pcY) (hpN : pc + 3 = pcN) (yes : ¬ x < y → own_Fin n0 K P T pcY L S) (no : x < y → own_Fin n0 K P T pcN L S) : own_Fin n0 K P T pc L (.int y :: .int x :: S) := by
  obtain ⟨p, l, e, R, s, m, args, below, meth, c⟩ := K
  obtain ⟨hx, hby, hml, hown, hret, hlk, hZ, rfl, hw⟩ := M
  obtain ⟨locs, X, hN, eT, hn, hcl, hsl⟩ := X
  subst hpN
  by_cases q : x < y
  · obtain ⟨s2, o2, st, r⟩ := no q
    exact ⟨s2, o2, XS.icmpNo X.here hx rfl (hb hby hd) rfl (tlt q).2.1 st, r⟩
  · obtain ⟨s2, o2, st, r⟩ := yes q
    exact ⟨s2, o2, XS.icmpYes X.here hx rfl (pc0 := pc) rfl (hb hby hd) rfl (flt q).2.1 ho hY st, r⟩
theorem own_if_ge (M : own_Mx Z a0 K code own mx ret rm) (X : own_Sx n0 K T h cl sl) {x : Int32} {o : Int} {pcY pcN : Nat} (hd : decode code pc = .ok (.ifCond .ge o, 3)) (ho : 0 ≤ (pc : Int) + o) (hY : ((pc : Int) + o).toNat = pcY) (hpN : pc + 3 = pcN) (yes : ¬ x < 0 → own_Fin n0 K P T pcY L S) (no : x < 0 → own_Fin n0 K P T pcN L S) : own_Fin n0 K P T pc L (.int x :: S) := by
  obtain ⟨p, l, e, R, s, m, args, below, meth, c⟩ := K
  obtain ⟨hx, hby, hml, hown, hret, hlk, hZ, rfl, hw⟩ := M
  obtain ⟨locs, X, hN, eT, hn, hcl, hsl⟩ := X
  subst hpN
  by_cases q : x < 0
  · obtain ⟨s2, o2, st, r⟩ := no q
    exact ⟨s2, o2, XS.ifNo X.here hx rfl (hb hby hd) rfl ((if0 _ _).trans (tlt q).2.1) st, r⟩
  · obtain ⟨s2, o2, st, r⟩ := yes q
    exact ⟨s2, o2, XS.ifYes X.here hx rfl (pc0 := pc) rfl (hb hby hd) rfl ((if0 _ _).trans (flt q).2.1) ho hY st, r⟩
theorem own_lcmp_ge (M : own_Mx Z a0 K code own mx ret rm) (X : own_Sx n0 K T h cl sl) {x y : Int64} {pc1 : Nat} {o : Int} {pcY pcN : Nat} (hdc : decode code pc = .ok (.lcmp, 1)) (h1 : pc + 1 = pc1) (hd : decode code pc1 = .ok (.ifCond .ge o, 3)) (ho : 0 ≤ (pc1 : Int) + o) (hY : ((pc1 : Int) + o).toNat = pcY) (hpN : pc1 + 3 = pcN) (yes : ¬ x < y → own_Fin n0 K P T pcY L S) (no : x < y → own_Fin n0 K P T pcN L S) : own_Fin n0 K P T pc L (.long y :: .long x :: S) := by
  obtain ⟨p, l, e, R, s, m, args, below, meth, c⟩ := K
  obtain ⟨hx, hby, hml, hown, hret, hlk, hZ, rfl, hw⟩ := M
  obtain ⟨locs, X, hN, eT, hn, hcl, hsl⟩ := X
  subst hpN h1
  by_cases q : x < y
  · obtain ⟨s2, o2, st, r⟩ := no q
    exact ⟨s2, o2, XS.lcmp X.here hx rfl (hb hby hdc) rfl (XS.ifNo (g := mkF m (pc + 1) L (.int (lcmpW x y) :: S)) X.here hx rfl (hb hby hd) rfl ((if0 _ _).trans (tlt ((lw_lt x y).mpr q)).2.1) st), r⟩
  · obtain ⟨s2, o2, st, r⟩ := yes q
    exact ⟨s2, o2, XS.lcmp X.here hx rfl (hb hby hdc) rfl (XS.ifYes (g := mkF m (pc + 1) L (.int (lcmpW x y) :: S)) X.here hx rfl (pc0 := pc + 1) rfl (hb hby hd) rfl ((if0 _ _).trans (flt (fun z => q ((lw_lt x y).mp z))).2.1) ho hY st), r⟩
theorem own_icmp_gt (M : own_Mx Z a0 K code own mx ret rm) (X : own_Sx n0 K T h cl sl) {x y : Int32} {o : Int} {pcY pcN : Nat} (hd : decode code pc = .ok (.if_icmp .gt o, 3)) (ho : 0 ≤ (pc : Int) + o) (hY : ((pc : Int) + o).toNat = pcY) (hpN : pc + 3 = pcN) (yes : y < x → own_Fin n0 K P T pcY L S) (no : ¬ y < x → own_Fin n0 K P T pcN L S) : own_Fin n0 K P T pc L (.int y :: .int x :: S) := by
  obtain ⟨p, l, e, R, s, m, args, below, meth, c⟩ := K
  obtain ⟨hx, hby, hml, hown, hret, hlk, hZ, rfl, hw⟩ := M
  obtain ⟨locs, X, hN, eT, hn, hcl, hsl⟩ := X
  subst hpN
  by_cases q : y < x
  · obtain ⟨s2, o2, st, r⟩ := yes q
    exact ⟨s2, o2, XS.icmpYes X.here hx rfl (pc0 := pc) rfl (hb hby hd) rfl (tlt q).2.2.1 ho hY st, r⟩
  · obtain ⟨s2, o2, st, r⟩ := no q
    exact ⟨s2, o2, XS.icmpNo X.here hx rfl (hb hby hd) rfl (flt q).2.2.1 st, r⟩
theorem own_if_gt (M : own_Mx Z a0 K code own mx ret rm) (X : own_Sx n0 K T h cl sl) {x : Int32} {o : Int} {pcY pcN : Nat} (hd : decode code pc = .ok (.ifCond .gt o, 3)) (ho : 0 ≤ (pc : Int) + o) (hY : ((pc : Int) + o).toNat = pcY) (hpN : pc + 3 = pcN) (yes : 0 < x → own_Fin n0 K P T pcY L S) (no : ¬ 0 < x → own_Fin n0 K P T pcN L S) : own_Fin n0 K P T pc L (.int x :: S) := by
  obtain ⟨p, l, e, R, s, m, args, below, meth, c⟩ := K
  obtain ⟨hx, hby, hml, hown, hret, hlk, hZ, rfl, hw⟩ := M
  obtain ⟨locs, X, hN, eT, hn, hcl, hsl⟩ := X
  subst hpN
  by_cases q : 0 < x
  · obtain ⟨s2, o2, st, r⟩ := yes q
    exact ⟨s2, o2, XS.ifYes X.here hx rfl (pc0 := pc) rfl (hb hby hd) rfl ((if0 _ _).trans (tlt q).2.2.1) ho hY st, r⟩
  · obtain ⟨s2, o2, st, r⟩ := no q
    exact ⟨s2, o2, XS.ifNo X.here hx rfl (hb hby hd) rfl ((if0 _ _).trans (flt q).2.2.1) st, r⟩
theorem own_lcmp_gt (M : own_Mx Z a0 K code own mx ret rm) (X : own_Sx n0 K T h cl sl) {x y : Int64} {pc1 : Nat} {o : Int} {pcY pcN : Nat} (hdc : decode code pc = .ok (.lcmp, 1)) (h1 : pc + 1 = pc1) (hd : decode code pc1 = .ok (.ifCond .gt o, 3)) (ho : 0 ≤ (pc1 : Int) + o) (hY : ((pc1 : Int) + o).toNat = pcY) (hpN : pc1 + 3 = pcN) (yes : y < x → own_Fin n0 K P T pcY L S) (no : ¬ y < x → own_Fin n0 K P T pcN L S) : own_Fin n0 K P T pc L (.long y :: .long x :: S) := by
  obtain ⟨p, l, e, R, s, m, args, below, meth, c⟩ := K
  obtain ⟨hx, hby, hml, hown, hret, hlk, hZ, rfl, hw⟩ := M
  obtain ⟨locs, X, hN, eT, hn, hcl, hsl⟩ := X
  subst hpN h1
  by_cases q : y < x
  · obtain ⟨s2, o2, st, r⟩ := yes q
    exact ⟨s2, o2, XS.lcmp X.here hx rfl (hb hby hdc) rfl (XS.ifYes (g := mkF m (pc + 1) L (.int (lcmpW x y) :: S)) X.here hx rfl (pc0 := pc + 1) rfl (hb hby hd) rfl ((if0 _ _).trans (tlt ((lw_gt x y).mpr q)).2.2.1) ho hY st), r⟩
  · obtain ⟨s2, o2, st, r⟩ := no q
    exact ⟨s2, o2, XS.lcmp X.here hx rfl (hb hby hdc) rfl (XS.ifNo (g := mkF m (pc + 1) L (.int (lcmpW x y) :: S)) X.here hx rfl (hb hby hd) rfl ((if0 _ _).trans (flt (fun z => q ((lw_gt x y).mp z))).2.2.1) st), r⟩
theorem own_icmp_le (M : own_Mx Z a0 K code own mx ret rm) (X : own_Sx n0 K T h cl sl) {x y : Int32} {o : Int} {pcY pcN : Nat} (hd : decode code pc = .ok (.if_icmp .le o, 3)) (ho : 0 ≤ (pc : Int) + o) (hY : ((pc : Int) + o).toNat = pcY) (hpN : pc + 3 = pcN) (yes : ¬ y < x → own_Fin n0 K P T pcY L S) (no : y < x → own_Fin n0 K P T pcN L S) : own_Fin n0 K P T pc L (.int y :: .int x :: S) := by
  obtain ⟨p, l, e, R, s, m, args, below, meth, c⟩ := K
  obtain ⟨hx, hby, hml, hown, hret, hlk, hZ, rfl, hw⟩ := M
  obtain ⟨locs, X, hN, eT, hn, hcl, hsl⟩ := X
  subst hpN
  by_cases q : y < x
  · obtain ⟨s2, o2, st, r⟩ := no q
    exact ⟨s2, o2, XS.icmpNo X.here hx rfl (hb hby hd) rfl (tlt q).2.2.2 st, r⟩
  · obtain ⟨s2, o2, st, r⟩ := yes q
    exact ⟨s2, o2, XS.icmpYes X.here hx rfl (pc0 := pc) rfl (hb hby hd) rfl (flt q).2.2.2 ho hY st, r⟩
theorem own_if_le (M : own_Mx Z a0 K code own mx ret rm) (X : own_Sx n0 K T h cl sl) {x : Int32} {o : Int} {pcY pcN : Nat} (hd : decode code pc = .ok (.ifCond .le o, 3)) (ho : 0 ≤ (pc : Int) + o) (hY : ((pc : Int) + o).toNat = pcY) (hpN : pc + 3 = pcN) (yes : ¬ 0 < x → own_Fin n0 K P T pcY L S) (no : 0 < x → own_Fin n0 K P T pcN L S) : own_Fin n0 K P T pc L (.int x :: S) := by
  obtain ⟨p, l, e, R, s, m, args, below, meth, c⟩ := K
  obtain ⟨hx, hby, hml, hown, hret, hlk, hZ, rfl, hw⟩ := M
  obtain ⟨locs, X, hN, eT, hn, hcl, hsl⟩ := X
  subst hpN
  by_cases q : 0 < x
  · obtain ⟨s2, o2, st, r⟩ := no q
    exact ⟨s2, o2, XS.ifNo X.here hx rfl (hb hby hd) rfl ((if0 _ _).trans (tlt q).2.2.2) st, r⟩
  · obtain ⟨s2, o2, st, r⟩ := yes q
    exact ⟨s2, o2, XS.ifYes X.here hx rfl (pc0 := pc) rfl (hb hby hd) rfl ((if0 _ _).trans (flt q).2.2.2) ho hY st, r⟩
theorem own_lcmp_le (M : own_Mx Z a0 K code own mx ret rm) (X : own_Sx n0 K T h cl sl) {x y : Int64} {pc1 : Nat} {o : Int} {pcY pcN : Nat} (hdc : decode code pc = .ok (.lcmp, 1)) (h1 : pc + 1 = pc1) (hd : decode code pc1 = .ok (.ifCond .le o, 3)) (ho : 0 ≤ (pc1 : Int) + o) (hY : ((pc1 : Int) + o).toNat = pcY) (hpN : pc1 + 3 = pcN) (yes : ¬ y < x → own_Fin n0 K P T pcY L S) (no : y < x → own_Fin n0 K P T pcN L S) : own_Fin n0 K P T pc L (.long y :: .long x :: S) := by
  obtain ⟨p, l, e, R, s, m, args, below, meth, c⟩ := K
  obtain ⟨hx, hby, hml, hown, hret, hlk, hZ, rfl, hw⟩ := M
  obtain ⟨locs, X, hN, eT, hn, hcl, hsl⟩ := X
  subst hpN h1
  by_cases q : y < x
  · obtain ⟨s2, o2, st, r⟩ := no q
    exact ⟨s2, o2, XS.lcmp X.here hx rfl (hb hby hdc) rfl (XS.ifNo (g := mkF m (pc + 1) L (.int (lcmpW x y) :: S)) X.here hx rfl (hb hby hd) rfl ((if0 _ _).trans (tlt ((lw_gt x y).mpr q)).2.2.2) st), r⟩
  · obtain ⟨s2, o2, st, r⟩ := yes q
    exact ⟨s2, o2, XS.lcmp X.here hx rfl (hb hby hdc) rfl (XS.ifYes (g := mkF m (pc + 1) L (.int (lcmpW x y) :: S)) X.here hx rfl (pc0 := pc + 1) rfl (hb hby hd) rfl ((if0 _ _).trans (flt (fun z => q ((lw_gt x y).mp z))).2.2.2) ho hY st), r⟩
theorem own_icmp_eq (M : own_Mx Z a0 K code own mx ret rm) (X : own_Sx n0 K T h cl sl) {x y : Int32} {o : Int} {pcY pcN : Nat} (hd : decode code pc = .ok (.if_icmp .eq o, 3)) (ho : 0 ≤ (pc : Int) + o) (hY : ((pc : Int) + o).toNat = pcY) (hpN : pc + 3 = pcN) (yes : x = y → own_Fin n0 K P T pcY L S) (no : ¬ x = y → own_Fin n0 K P T pcN L S) : own_Fin n0 K P T pc L (.int y :: .int x :: S) := by
  obtain ⟨p, l, e, R, s, m, args, below, meth, c⟩ := K
  obtain ⟨hx, hby, hml, hown, hret, hlk, hZ, rfl, hw⟩ := M
  obtain ⟨locs, X, hN, eT, hn, hcl, hsl⟩ := X
  subst hpN
  by_cases q : x = y
  · obtain ⟨s2, o2, st, r⟩ := yes q
    exact ⟨s2, o2, XS.icmpYes X.here hx rfl (pc0 := pc) rfl (hb hby hd) rfl (teq q).1 ho hY st, r⟩
  · obtain ⟨s2, o2, st, r⟩ := no q
    exact ⟨s2, o2, XS.icmpNo X.here hx rfl (hb hby hd) rfl (feq q).1 st, r⟩
theorem own_if_eq (M : own_Mx Z a0 K code own mx ret rm) (X : own_Sx n0 K T h cl sl) {x : Int32} {o : Int} {pcY pcN : Nat} (hd : decode code pc = .ok (.ifCond .eq o, 3)) (ho : 0 ≤ (pc : Int) + o) (hY : ((pc : Int) + o).toNat = pcY) (hpN : pc + 3 = pcN) (yes : x = 0 → own_Fin n0 K P T pcY L S) (no : ¬ x = 0 → own_Fin n0 K P T pcN L S) : own_Fin n0 K P T pc L (.int x :: S) := by
  obtain ⟨p, l, e, R, s, m, args, below, meth, c⟩ := K
  obtain ⟨hx, hby, hml, hown, hret, hlk, hZ, rfl, hw⟩ := M
  obtain ⟨locs, X, hN, eT, hn, hcl, hsl⟩ := X
  subst hpN
  by_cases q : x = 0
  · obtain ⟨s2, o2, st, r⟩ := yes q
    exact ⟨s2, o2, XS.ifYes X.here hx rfl (pc0 := pc) rfl (hb hby hd) rfl ((if0 _ _).trans (teq q).1) ho hY st, r⟩
  · obtain ⟨s2, o2, st, r⟩ := no q
    exact ⟨s2, o2, XS.ifNo X.here hx rfl (hb hby hd) rfl ((if0 _ _).trans (feq q).1) st, r⟩
theorem own_lcmp_eq (M : own_Mx Z a0 K code own mx ret rm) (X : own_Sx n0 K T h cl sl) {x y : Int64} {pc1 : Nat} {o : Int} {pcY pcN : Nat} (hdc : decode code pc = .ok (.lcmp, 1)) (h1 : pc + 1 = pc1) (hd : decode code pc1 = .ok (.ifCond .eq o, 3)) (ho : 0 ≤ (pc1 : Int) + o) (hY : ((pc1 : Int) + o).toNat = pcY) (hpN : pc1 + 3 = pcN) (yes : x = y → own_Fin n0 K P T pcY L S) (no : ¬ x = y → own_Fin n0 K P T pcN L S) : own_Fin n0 K P T pc L (.long y :: .long x :: S) := by
  obtain ⟨p, l, e, R, s, m, args, below, meth, c⟩ := K
  obtain ⟨hx, hby, hml, hown, hret, hlk, hZ, rfl, hw⟩ := M
  obtain ⟨locs, X, hN, eT, hn, hcl, hsl⟩ := X
  subst hpN h1
  by_cases q : x = y
  · obtain ⟨s2, o2, st, r⟩ := yes q
    exact ⟨s2, o2, XS.lcmp X.here hx rfl (hb hby hdc) rfl (XS.ifYes (g := mkF m (pc + 1) L (.int (lcmpW x y) :: S)) X.here hx rfl (pc0 := pc + 1) rfl (hb hby hd) rfl ((if0 _ _).trans (teq ((lw_eq x y).mpr q)).1) ho hY st), r⟩
  · obtain ⟨s2, o2, st, r⟩ := no q
    exact ⟨s2, o2, XS.lcmp X.here hx rfl (hb hby hdc) rfl (XS.ifNo (g := mkF m (pc + 1) L (.int (lcmpW x y) :: S)) X.here hx rfl (hb hby hd) rfl ((if0 _ _).trans (feq (fun z => q ((lw_eq x y).mp z))).1) st), r⟩
theorem own_icmp_ne (M : own_Mx Z a0 K code own mx ret rm) (X : own_Sx n0 K T h cl sl) {x y : Int32} {o : Int} {pcY pcN : Nat} (hd : decode code pc = .ok (.if_icmp .ne o, 3)) (ho : 0 ≤ (pc : Int) + o) (hY : ((pc : Int) + o).toNat = pcY) (hpN : pc + 3 = pcN) (yes : ¬ x = y → own_Fin n0 K P T pcY L S) (no : x = y → own_Fin n0 K P T pcN L S) : own_Fin n0 K P T pc L (.int y :: .int x :: S) := by
  obtain ⟨p, l, e, R, s, m, args, below, meth, c⟩ := K
  obtain ⟨hx, hby, hml, hown, hret, hlk, hZ, rfl, hw⟩ := M
  obtain ⟨locs, X, hN, eT, hn, hcl, hsl⟩ := X
  subst hpN
  by_cases q : x = y
  · obtain ⟨s2, o2, st, r⟩ := no q
    exact ⟨s2, o2, XS.icmpNo X.here hx rfl (hb hby hd) rfl (teq q).2 st, r⟩
  · obtain ⟨s2, o2, st, r⟩ := yes q
    exact ⟨s2, o2, XS.icmpYes X.here hx rfl (pc0 := pc) rfl (hb hby hd) rfl (feq q).2 ho hY st, r⟩
theorem own_if_ne (M : own_Mx Z a0 K code own mx ret rm) (X : own_Sx n0 K T h cl sl) {x : Int32} {o : Int} {pcY pcN : Nat} (hd : decode code pc = .ok (.ifCond .ne o, 3)) (ho : 0 ≤ (pc : Int) + o) (hY : ((pc : Int) + o).toNat = pcY) (hpN : pc + 3 = pcN) (yes : ¬ x = 0 → own_Fin n0 K P T pcY L S) (no : x = 0 → own_Fin n0 K P T pcN L S) : own_Fin n0 K P T pc L (.int x :: S) := by
  obtain ⟨p, l, e, R, s, m, args, below, meth, c⟩ := K
  obtain ⟨hx, hby, hml, hown, hret, hlk, hZ, rfl, hw⟩ := M
  obtain ⟨locs, X, hN, eT, hn, hcl, hsl⟩ := X
  subst hpN
  by_cases q : x = 0
  · obtain ⟨s2, o2, st, r⟩ := no q
    exact ⟨s2, o2, XS.ifNo X.here hx rfl (hb hby hd) rfl ((if0 _ _).trans (teq q).2) st, r⟩
  · obtain ⟨s2, o2, st, r⟩ := yes q
    exact ⟨s2, o2, XS.ifYes X.here hx rfl (pc0 := pc) rfl (hb hby hd) rfl ((if0 _ _).trans (feq q).2) ho hY st, r⟩
theorem own_lcmp_ne (M : own_Mx Z a0 K code own mx ret rm) (X : own_Sx n0 K T h cl sl) {x y : Int64} {pc1 : Nat} {o : Int} {pcY pcN : Nat} (hdc : decode code pc = .ok (.lcmp, 1)) (h1 : pc + 1 = pc1) (hd : decode code pc1 = .ok (.ifCond .ne o, 3)) (ho : 0 ≤ (pc1 : Int) + o) (hY : ((pc1 : Int) + o).toNat = pcY) (hpN : pc1 + 3 = pcN) (yes : ¬ x = y → own_Fin n0 K P T pcY L S) (no : x = y → own_Fin n0 K P T pcN L S) : own_Fin n0 K P T pc L (.long y :: .long x :: S) := by
  obtain ⟨p, l, e, R, s, m, args, below, meth, c⟩ := K
  obtain ⟨hx, hby, hml, hown, hret, hlk, hZ, rfl, hw⟩ := M
  obtain ⟨locs, X, hN, eT, hn, hcl, hsl⟩ := X
  subst hpN h1
  by_cases q : x = y
  · obtain ⟨s2, o2, st, r⟩ := no q
    exact ⟨s2, o2, XS.lcmp X.here hx rfl (hb hby hdc) rfl (XS.ifNo (g := mkF m (pc + 1) L (.int (lcmpW x y) :: S)) X.here hx rfl (hb hby hd) rfl ((if0 _ _).trans (teq ((lw_eq x y).mpr q)).2) st), r⟩
  · obtain ⟨s2, o2, st, r⟩ := yes q
    exact ⟨s2, o2, XS.lcmp X.here hx rfl (hb hby hdc) rfl (XS.ifYes (g := mkF m (pc + 1) L (.int (lcmpW x y) :: S)) X.here hx rfl (pc0 := pc + 1) rfl (hb hby hd) rfl ((if0 _ _).trans (feq (fun z => q ((lw_eq x y).mp z))).2) ho hY st), r⟩
theorem own_callS (M : own_Mx Z a0 K code own mx ret rm) (X : own_Sx n0 K T h cl sl) {y : MethodName} {ycode : ByteArray} {ymx : Nat} {yret : Option FieldType} {yrm : Room} {idx : Nat} {Q : Option Value → Heap → Prop} {ps : List FieldType} {yr : Option FieldType} (argsL : List Value)
    (w1 : (Jvm.Cond.methodLink own idx y).before a0 Z = true) (w2 : (Jvm.Cond.static y).before a0 Z = true) (w3 : (Jvm.Cond.initialized y.cls).before a0 Z = true) (w4 : (Jvm.Cond.code y ycode ymx yret).before a0 Z = true) (hy : y.cls ≠ "java/lang/invoke/MethodHandle" ∧ y.cls ≠ "java/lang/invoke/VarHandle")
    (hM : own_Met K.2.1 Z n0 y ycode ymx yret yrm argsL.toArray h Q) (hL : L.size = mx) (hd : decode code pc = .ok (.invokestatic idx, 3)) (hp : pc + 3 = pc') (hpd : parseMethodDescriptor y.desc = some ⟨ps, yr⟩) (hlen : argsL.length = ps.length) (hS : S = argsL.reverse ++ rest)
    (W : Nat) (hW : (rest.map fun v => v.category).sum ≤ W) (hf : yrm.frames + 1 ≤ rm.frames) (hl : W + (ymx + 11) + yrm.locals ≤ rm.locals) (hc : cl + yrm.cells ≤ rm.cells) (hs : sl + yrm.slots ≤ rm.slots)
    (hr : ∀ T' h' v, own_Sx n0 K T' h' (cl + yrm.cells) (sl + yrm.slots) → Q v h' → own_Fin n0 K P T' pc' L (v.toList ++ rest)) : own_Fin n0 K P T pc L S := by
  obtain ⟨p, l, e, R, s, m, args, below, meth, c⟩ := K
  obtain ⟨hx, hby, hml, hown, hret, hlk, hZ, rfl, hw⟩ := M
  obtain ⟨locs, X, hN, eT, hn, hcl, hsl⟩ := X
  obtain ⟨v, vm1, ⟨T1, L1, k1, n1⟩, -, X1, ⟨Lc, hQ, l1, y1, z1⟩, st⟩ := Jvm.LawKit.callS X hx (y := y) hown (mvT hZ w1) (mvT hZ w2) (mvT hZ w3) (mvT hZ w4) hy (backOf (W := W) (Q := fun v h L => Q v h ∧ Fr n0 L) (hM []) hZ w4 w3 hf hl) (g := mkF m pc L S) rfl (by rw [hml]; exact hL) (argsL := argsL) (rest := rest) (lenOf hpd hlen) hS (by show 2 * 0 + _ ≤ W; omega) (hb hby hd) (fun _ _ => ⟨rfl, eT, hc, hs⟩)
  dsimp only [Pt.U, Pt.locs, Pt.cells, Pt.slots] at X1 l1 y1 z1 st hQ
  subst l1 y1 z1 hp
  obtain ⟨s2, o2, st2, r⟩ := hr T1 _ v ⟨_, X1, Fr.app hN hQ.2, rfl, hn, hc, hs⟩ hQ.1
  exact ⟨s2, o2, st _ st2, r⟩
theorem own_callP (M : own_Mx Z a0 K code own mx ret rm) (X : own_Sx n0 K T h cl sl) {y : MethodName} {ycode : ByteArray} {ymx : Nat} {yret : Option FieldType} {yrm : Room} {idx : Nat} {ps : List FieldType} {yr : Option FieldType} {w : Value} (argsL : List Value)
    (w1 : (Jvm.Cond.methodLink own idx y).before a0 Z = true) (w2 : (Jvm.Cond.static y).before a0 Z = true) (w3 : (Jvm.Cond.initialized y.cls).before a0 Z = true) (w4 : (Jvm.Cond.code y ycode ymx yret).before a0 Z = true) (hy : y.cls ≠ "java/lang/invoke/MethodHandle" ∧ y.cls ≠ "java/lang/invoke/VarHandle")
    (hM : own_Met K.2.1 Z n0 y ycode ymx yret yrm argsL.toArray h (fun v h' => v = some w ∧ h' = h)) (hL : L.size = mx) (hd : decode code pc = .ok (.invokestatic idx, 3)) (hp : pc + 3 = pc') (hpd : parseMethodDescriptor y.desc = some ⟨ps, yr⟩) (hlen : argsL.length = ps.length) (hS : S = argsL.reverse ++ rest)
    (W : Nat) (hW : (rest.map fun v => v.category).sum ≤ W) (hf : yrm.frames + 1 ≤ rm.frames) (hl : W + (ymx + 11) + yrm.locals ≤ rm.locals) (hc0 : yrm.cells = 0) (hs0 : yrm.slots = 0)
    (hr : ∀ T', own_Sx n0 K T' h cl sl → own_Fin n0 K P T' pc' L (w :: rest)) : own_Fin n0 K P T pc L S := by
  have hcs : cl ≤ rm.cells ∧ sl ≤ rm.slots := by
    obtain ⟨p, l, e, R, s, m, args, below, meth, c⟩ := K
    obtain ⟨hx, hby, hml, hown, hret, hlk, hZ, rfl, hw⟩ := M
    obtain ⟨locs, X, hN, eT, hn, hcl, hsl⟩ := X
    exact ⟨hcl, hsl⟩
  refine own_callS M X argsL w1 w2 w3 w4 hy hM hL hd hp hpd hlen hS W hW hf hl (by rw [hc0]; exact hcs.1) (by rw [hs0]; exact hcs.2) ?_
  rintro T' h' v X' ⟨rfl, rfl⟩
  rw [hc0, hs0] at X'
  exact hr T' X'
theorem own_callP0 (M : own_Mx Z a0 K code own mx ret rm) (X : own_Sx n0 K T h cl sl) {y : MethodName} {ycode : ByteArray} {ymx : Nat} {yret : Option FieldType} {yrm : Room} {idx : Nat} {ps : List FieldType} {yr : Option FieldType} (argsL : List Value)
    (w1 : (Jvm.Cond.methodLink own idx y).before a0 Z = true) (w2 : (Jvm.Cond.static y).before a0 Z = true) (w3 : (Jvm.Cond.initialized y.cls).before a0 Z = true) (w4 : (Jvm.Cond.code y ycode ymx yret).before a0 Z = true) (hy : y.cls ≠ "java/lang/invoke/MethodHandle" ∧ y.cls ≠ "java/lang/invoke/VarHandle")
    (hM : own_Met K.2.1 Z n0 y ycode ymx yret yrm argsL.toArray h (fun v h' => v = none ∧ h' = h)) (hL : L.size = mx) (hd : decode code pc = .ok (.invokestatic idx, 3)) (hp : pc + 3 = pc') (hpd : parseMethodDescriptor y.desc = some ⟨ps, yr⟩) (hlen : argsL.length = ps.length) (hS : S = argsL.reverse ++ rest)
    (W : Nat) (hW : (rest.map fun v => v.category).sum ≤ W) (hf : yrm.frames + 1 ≤ rm.frames) (hl : W + (ymx + 11) + yrm.locals ≤ rm.locals) (hc0 : yrm.cells = 0) (hs0 : yrm.slots = 0)
    (hr : ∀ T', own_Sx n0 K T' h cl sl → own_Fin n0 K P T' pc' L (rest)) : own_Fin n0 K P T pc L S := by
  have hcs : cl ≤ rm.cells ∧ sl ≤ rm.slots := by
    obtain ⟨p, l, e, R, s, m, args, below, meth, c⟩ := K
    obtain ⟨hx, hby, hml, hown, hret, hlk, hZ, rfl, hw⟩ := M
    obtain ⟨locs, X, hN, eT, hn, hcl, hsl⟩ := X
    exact ⟨hcl, hsl⟩
  refine own_callS M X argsL w1 w2 w3 w4 hy hM hL hd hp hpd hlen hS W hW hf hl (by rw [hc0]; exact hcs.1) (by rw [hs0]; exact hcs.2) ?_
  rintro T' h' v X' ⟨rfl, rfl⟩
  rw [hc0, hs0] at X'
  exact hr T' X'
/-! arrays: n places, place j holds f j -/
def own_Va (Z : State) (h : Heap) (a : Addr) (ty : FieldType) (n : Nat) (f : Nat → Value) : Prop :=
  ∃ c : Cell, Arr Z h a c ty ∧ c.slots.size = n ∧ n < 2 ^ 31 ∧ (∀ j, j < n → c.slots[j]? = some (f j)) ∧ ∀ j, j < n → fits ty (f j) = true
def own_upd (f : Nat → Value) (i : Nat) (v : Value) : Nat → Value := fun j => if j = i then v else f j
theorem own_Va.lt {a : Addr} {ty : FieldType} {n : Nat} {f : Nat → Value} (V : own_Va Z h a ty n f) : a < h.size := by obtain ⟨c, A, -⟩ := V; exact A.lt
theorem own_Va.small {a : Addr} {ty : FieldType} {n : Nat} {f : Nat → Value} (V : own_Va Z h a ty n f) : n < 2 ^ 31 := by obtain ⟨c, A, -, q, -⟩ := V; exact q
theorem own_Va.ext {h' : Heap} {a : Addr} {ty : FieldType} {n : Nat} {f : Nat → Value} (V : own_Va Z h a ty n f) (E : Ext h h') : own_Va Z h' a ty n f := by obtain ⟨c, A, r⟩ := V; exact ⟨c, A.ext E, r⟩
theorem own_Va.keep {h' : Heap} {ws : List Addr} {a : Addr} {ty : FieldType} {n : Nat} {f : Nat → Value} (V : own_Va Z h a ty n f) (K : Keep h h' ws) (q : a ∉ ws) : own_Va Z h' a ty n f := by obtain ⟨c, A, r⟩ := V; exact ⟨c, ⟨K.2.1 a c A.1 q, A.2⟩, r⟩
theorem own_Va.congr {a : Addr} {ty : FieldType} {n : Nat} {f g : Nat → Value} (V : own_Va Z h a ty n f) (q : ∀ j, j < n → f j = g j) : own_Va Z h a ty n g := by
  obtain ⟨c, A, r1, r2, r3, r4⟩ := V
  exact ⟨c, A, r1, r2, fun j hj => by rw [← q j hj]; exact r3 j hj, fun j hj => by rw [← q j hj]; exact r4 j hj⟩
theorem own_Va.wr {h' : Heap} {a : Addr} {ty : FieldType} {n i : Nat} {f : Nat → Value} {v : Value} (V : own_Va Z h a ty n f) (W : Wr h h' a i v) (hf : fits ty v = true) : own_Va Z h' a ty n (own_upd f i v) := by
  obtain ⟨c, A, r1, r2, r3, r4⟩ := V
  refine ⟨c.setSlot i v, A.same W, by rw [sz_set]; exact r1, r2, fun j hj => ?_, fun j hj => ?_⟩
  · have hj' : j < c.slots.size := by omega
    by_cases q : j = i
    · subst q; simp [Cell.setSlot, own_upd, hj']
    · have q' : ¬ i = j := fun z => q z.symm
      simp only [Cell.setSlot, own_upd, if_neg q, Array.getElem?_setIfInBounds, if_neg q']
      exact r3 j hj
  · by_cases q : j = i
    · simp only [own_upd, if_pos q]; exact hf
    · simp only [own_upd, if_neg q]; exact r4 j hj
theorem own_upd_eq {f : Nat → Value} {i : Nat} {v : Value} : own_upd f i v i = v := if_pos rfl
theorem own_upd_ne {f : Nat → Value} {i j : Nat} {v : Value} (q : j ≠ i) : own_upd f i v j = f j := if_neg q
/-- an array of ints (bytes) by the list of its values; of longs -/
def own_lsi (ws : List Int32) : Nat → Value := fun j => .int (ws.getD j 0)
def own_lsj (ws : List Int64) : Nat → Value := fun j => .long (ws.getD j 0)
theorem own_zeroi {ty : FieldType} (ws : List Int32) (n : Nat) (hw : ws = List.replicate n 0) (hd : defaultValue ty = .int 0 := by rfl) : ∀ j, j < n → (fun _ : Nat => defaultValue ty) j = own_lsi ws j := fun j hj => by
  show defaultValue ty = .int (ws.getD j 0)
  rw [hw, hd]; simp [List.getD, hj]
theorem own_zeroj {ty : FieldType} (ws : List Int64) (n : Nat) (hw : ws = List.replicate n 0) (hd : defaultValue ty = .long 0 := by rfl) : ∀ j, j < n → (fun _ : Nat => defaultValue ty) j = own_lsj ws j := fun j hj => by
  show defaultValue ty = .long (ws.getD j 0)
  rw [hw, hd]; simp [List.getD, hj]
theorem own_seti {ws ws' : List Int32} {i n : Nat} {v : Int32} (hs : ws.set i v = ws') (hi : i < ws.length) : ∀ j, j < n → own_upd (own_lsi ws) i (.int v) j = own_lsi ws' j := fun j hj => by
  subst hs
  by_cases q : j = i
  · subst q; simp [own_upd, own_lsi, List.getD, hi]
  · have q' : ¬ i = j := fun z => q z.symm
    simp [own_upd, own_lsi, List.getD, q, q']
theorem own_setj {ws ws' : List Int64} {i n : Nat} {v : Int64} (hs : ws.set i v = ws') (hi : i < ws.length) : ∀ j, j < n → own_upd (own_lsj ws) i (.long v) j = own_lsj ws' j := fun j hj => by
  subst hs
  by_cases q : j = i
  · subst q; simp [own_upd, own_lsj, List.getD, hi]
  · have q' : ¬ i = j := fun z => q z.symm
    simp [own_upd, own_lsj, List.getD, q, q']
theorem own_nat {j : Int32} {i : Nat} (hi : j.toInt = i) : j.toNatClampNeg = i := by simp [Int32.toNatClampNeg, hi]
theorem own_inb {c : Cell} {n i : Nat} {j : Int32} (hs : c.slots.size = n) (hi : j.toInt = i) (hin : i < n) : ¬ (j < 0 ∨ c.slots.size ≤ j.toNatClampNeg) := by
  rw [own_nat hi, hs, Int32.lt_iff_toInt_lt, hi, Int32.toInt_zero]; omega
theorem own_baload (M : own_Mx Z a0 K code own mx ret rm) (X : own_Sx n0 K T h cl sl) {a : Addr} {n i : Nat} {f : Nat → Value} {j : Int32} {v : Value} (V : own_Va Z h a .byte n f) (hi : j.toInt = i) (hin : i < n) (hv : f i = v) (hd : decode code pc = .ok (.baload, 1)) (hp : pc + 1 = pc') (hr : own_Fin n0 K P T pc' L (v :: S)) : own_Fin n0 K P T pc L (.int j :: .ref a :: S) := by
  obtain ⟨p, l, e, R, s, m, args, below, meth, c⟩ := K
  obtain ⟨hx, hby, hml, hown, hret, hlk, hZ, rfl, hw⟩ := M
  obtain ⟨locs, X, hN, eT, hn, hcl, hsl⟩ := X
  obtain ⟨s2, o2, st, r⟩ := hr
  obtain ⟨cc, A, hs, hlt, hg, -⟩ := V
  subst hp hv
  exact ⟨s2, o2, X.baloadBytes hx (j := j) (v := f i) (by rw [eT]; exact A.1) (State.isArrayOf_alike hZ.alike A.2.1) A.2.2 (own_inb hs hi hin) (by rw [own_nat hi]; exact hg i hin) (g := mkF m pc L (.int j :: .ref a :: S)) rfl rfl (hb hby hd) _ st, r⟩
theorem own_iaload (M : own_Mx Z a0 K code own mx ret rm) (X : own_Sx n0 K T h cl sl) {a : Addr} {n i : Nat} {f : Nat → Value} {j : Int32} {v : Value} (V : own_Va Z h a .int n f) (hi : j.toInt = i) (hin : i < n) (hv : f i = v) (hd : decode code pc = .ok (.iaload, 1)) (hp : pc + 1 = pc') (hr : own_Fin n0 K P T pc' L (v :: S)) : own_Fin n0 K P T pc L (.int j :: .ref a :: S) := by
  obtain ⟨p, l, e, R, s, m, args, below, meth, c⟩ := K
  obtain ⟨hx, hby, hml, hown, hret, hlk, hZ, rfl, hw⟩ := M
  obtain ⟨locs, X, hN, eT, hn, hcl, hsl⟩ := X
  obtain ⟨s2, o2, st, r⟩ := hr
  obtain ⟨cc, A, hs, hlt, hg, -⟩ := V
  subst hp hv
  exact ⟨s2, o2, X.iaload hx (j := j) (v := f i) (by rw [eT]; exact A.1) (State.isArrayOf_alike hZ.alike A.2.1) A.2.2 (own_inb hs hi hin) (by rw [own_nat hi]; exact hg i hin) (g := mkF m pc L (.int j :: .ref a :: S)) rfl rfl (hb hby hd) _ st, r⟩
theorem own_laload (M : own_Mx Z a0 K code own mx ret rm) (X : own_Sx n0 K T h cl sl) {a : Addr} {n i : Nat} {f : Nat → Value} {j : Int32} {v : Value} (V : own_Va Z h a .long n f) (hi : j.toInt = i) (hin : i < n) (hv : f i = v) (hd : decode code pc = .ok (.laload, 1)) (hp : pc + 1 = pc') (hr : own_Fin n0 K P T pc' L (v :: S)) : own_Fin n0 K P T pc L (.int j :: .ref a :: S) := by
  obtain ⟨p, l, e, R, s, m, args, below, meth, c⟩ := K
  obtain ⟨hx, hby, hml, hown, hret, hlk, hZ, rfl, hw⟩ := M
  obtain ⟨locs, X, hN, eT, hn, hcl, hsl⟩ := X
  obtain ⟨s2, o2, st, r⟩ := hr
  obtain ⟨cc, A, hs, hlt, hg, -⟩ := V
  subst hp hv
  exact ⟨s2, o2, X.laload hx (j := j) (v := f i) (by rw [eT]; exact A.1) (State.isArrayOf_alike hZ.alike A.2.1) A.2.2 (own_inb hs hi hin) (by rw [own_nat hi]; exact hg i hin) (g := mkF m pc L (.int j :: .ref a :: S)) rfl rfl (hb hby hd) _ st, r⟩
theorem own_bastore (M : own_Mx Z a0 K code own mx ret rm) (X : own_Sx n0 K T h cl sl) {a : Addr} {n i : Nat} {f : Nat → Value} {j : Int32} {x : Int32} (V : own_Va Z h a .byte n f) (hga : n0 ≤ a) (hi : j.toInt = i) (hin : i < n) (hd : decode code pc = .ok (.bastore, 1)) (hp : pc + 1 = pc') (hr : ∀ T' h', own_Sx n0 K T' h' cl sl → Keep h h' [a] → own_Va Z h' a .byte n (own_upd f i (.int x.toInt8.toInt32)) → own_Fin n0 K P T' pc' L S) : own_Fin n0 K P T pc L (.int x :: .int j :: .ref a :: S) := by
  obtain ⟨p, l, e, R, s, m, args, below, meth, c⟩ := K
  obtain ⟨hx, hby, hml, hown, hret, hlk, hZ, rfl, hw⟩ := M
  obtain ⟨locs, X, hN, eT, hn, hcl, hsl⟩ := X
  have V0 := V
  obtain ⟨cc, A, hs, hlt, hg, -⟩ := V
  obtain ⟨T1, h1, X1, e1, W1, st⟩ := stB X hx hZ eT A (j := j) (own_inb hs hi hin) (g := mkF m pc L (.int x :: .int j :: .ref a :: S)) rfl rfl (hb hby hd)
  rw [own_nat hi] at W1 X1
  subst hp
  obtain ⟨s2, o2, st2, r⟩ := hr T1 h1 ⟨_, X1, Fr.snoc X1 hN hga, e1, hn, hcl, hsl⟩ (Keep.of_wr W1) (V0.wr W1 (fits_nar_byte x))
  exact ⟨s2, o2, st _ st2, r⟩
theorem own_iastore (M : own_Mx Z a0 K code own mx ret rm) (X : own_Sx n0 K T h cl sl) {a : Addr} {n i : Nat} {f : Nat → Value} {j : Int32} {x : Int32} (V : own_Va Z h a .int n f) (hga : n0 ≤ a) (hi : j.toInt = i) (hin : i < n) (hd : decode code pc = .ok (.iastore, 1)) (hp : pc + 1 = pc') (hr : ∀ T' h', own_Sx n0 K T' h' cl sl → Keep h h' [a] → own_Va Z h' a .int n (own_upd f i (.int x)) → own_Fin n0 K P T' pc' L S) : own_Fin n0 K P T pc L (.int x :: .int j :: .ref a :: S) := by
  obtain ⟨p, l, e, R, s, m, args, below, meth, c⟩ := K
  obtain ⟨hx, hby, hml, hown, hret, hlk, hZ, rfl, hw⟩ := M
  obtain ⟨locs, X, hN, eT, hn, hcl, hsl⟩ := X
  have V0 := V
  obtain ⟨cc, A, hs, hlt, hg, -⟩ := V
  obtain ⟨T1, h1, X1, e1, W1, st⟩ := stI X hx hZ eT A (j := j) (own_inb hs hi hin) (g := mkF m pc L (.int x :: .int j :: .ref a :: S)) rfl rfl (hb hby hd)
  rw [own_nat hi] at W1 X1
  subst hp
  obtain ⟨s2, o2, st2, r⟩ := hr T1 h1 ⟨_, X1, Fr.snoc X1 hN hga, e1, hn, hcl, hsl⟩ (Keep.of_wr W1) (V0.wr W1 rfl)
  exact ⟨s2, o2, st _ st2, r⟩
theorem own_lastore (M : own_Mx Z a0 K code own mx ret rm) (X : own_Sx n0 K T h cl sl) {a : Addr} {n i : Nat} {f : Nat → Value} {j : Int32} {x : Int64} (V : own_Va Z h a .long n f) (hga : n0 ≤ a) (hi : j.toInt = i) (hin : i < n) (hd : decode code pc = .ok (.lastore, 1)) (hp : pc + 1 = pc') (hr : ∀ T' h', own_Sx n0 K T' h' cl sl → Keep h h' [a] → own_Va Z h' a .long n (own_upd f i (.long x)) → own_Fin n0 K P T' pc' L S) : own_Fin n0 K P T pc L (.long x :: .int j :: .ref a :: S) := by
  obtain ⟨p, l, e, R, s, m, args, below, meth, c⟩ := K
  obtain ⟨hx, hby, hml, hown, hret, hlk, hZ, rfl, hw⟩ := M
  obtain ⟨locs, X, hN, eT, hn, hcl, hsl⟩ := X
  have V0 := V
  obtain ⟨cc, A, hs, hlt, hg, -⟩ := V
  obtain ⟨T1, h1, X1, e1, W1, st⟩ := stJ X hx hZ eT A (j := j) (own_inb hs hi hin) (g := mkF m pc L (.long x :: .int j :: .ref a :: S)) rfl rfl (hb hby hd)
  rw [own_nat hi] at W1 X1
  subst hp
  obtain ⟨s2, o2, st2, r⟩ := hr T1 h1 ⟨_, X1, Fr.snoc X1 hN hga, e1, hn, hcl, hsl⟩ (Keep.of_wr W1) (V0.wr W1 rfl)
  exact ⟨s2, o2, st _ st2, r⟩
theorem own_arraylength (M : own_Mx Z a0 K code own mx ret rm) (X : own_Sx n0 K T h cl sl) {a : Addr} {ty : FieldType} {n : Nat} {f : Nat → Value} {z : Int32} (V : own_Va Z h a ty n f) (hz : z.toInt = n) (hd : decode code pc = .ok (.arraylength, 1)) (hp : pc + 1 = pc') (hr : own_Fin n0 K P T pc' L (.int z :: S)) : own_Fin n0 K P T pc L (.ref a :: S) := by
  obtain ⟨p, l, e, R, s, m, args, below, meth, c⟩ := K
  obtain ⟨hx, hby, hml, hown, hret, hlk, hZ, rfl, hw⟩ := M
  obtain ⟨locs, X, hN, eT, hn, hcl, hsl⟩ := X
  obtain ⟨s2, o2, st, r⟩ := hr
  obtain ⟨cc, A, hs, hlt, hg, -⟩ := V
  subst hp
  have e : cc.slots.size.toInt32 = z := by rw [hs]; exact Int32.toInt_inj.mp (by rw [len_toInt hlt, hz])
  exact ⟨s2, o2, X.arraylength hx (by rw [eT]; exact A.1) (State.isArrayOf_alike hZ.alike A.2.1) (g := mkF m pc L (.ref a :: S)) rfl rfl (hb hby hd) _ (by rw [e]; exact st), r⟩
theorem own_newarray (M : own_Mx Z a0 K code own mx ret rm) (X : own_Sx n0 K T h cl sl) {aty : ArrayType} {nn : Int32} {n : Nat} (cap : Nat) (w : (Jvm.Cond.arrayClass (newarray.typeOf aty)).before a0 Z = true) (hd : decode code pc = .ok (.newarray aty, 2)) (hp : pc + 2 = pc') (hnn : nn.toInt = n) (hcap : n ≤ cap) (hb8 : cap * 8 ≤ 536870912) (hc : cl + 1 ≤ rm.cells) (hs : sl + cap ≤ rm.slots)
    (hr : ∀ T' h' a, n0 ≤ a → h.size ≤ a → own_Sx n0 K T' h' (cl + 1) (sl + cap) → Ext h h' → own_Va Z h' a (newarray.typeOf aty) n (fun _ => defaultValue (newarray.typeOf aty)) → own_Fin n0 K P T' pc' L (.ref a :: S)) : own_Fin n0 K P T pc L (.int nn :: S) := by
  have hsz := X.size
  obtain ⟨p, l, e, R, s, m, args, below, meth, c⟩ := K
  obtain ⟨hx, hby, hml, hown, hret, hlk, hZ, rfl, hw⟩ := M
  obtain ⟨locs, X, hN, eT, hn, hcl, hsl⟩ := X
  obtain ⟨T1, h1, cA, X1, e1, E1, A1, st⟩ := newP X hx hZ w eT (g := mkF m pc L (.int nn :: S)) rfl (hb hby hd) rfl (by rw [Int32.lt_iff_toInt_lt, hnn, Int32.toInt_zero]; omega) (cap := cap) (by rw [own_nat hnn]; exact hcap) hb8 hc hs
  subst hp
  obtain ⟨s2, o2, st2, r⟩ := hr T1 h1 h.size hsz (Nat.le_refl _) ⟨_, X1, hN, e1, hn, hc, hs⟩ E1 ⟨_, A1, by rw [sz_new, own_nat hnn], by omega, fun j hj => by simp [newA, own_nat hnn, hj], fun j hj => by cases aty <;> rfl⟩
  exact ⟨s2, o2, st _ st2, r⟩
theorem own_new (M : own_Mx Z a0 K code own mx ret rm) (X : own_Sx n0 K T h cl sl) {C : String} {idx k : Nat} (w : (Jvm.Cond.classLink own idx C).before a0 Z = true) (wi : (Jvm.Cond.instantiable C k).before a0 Z = true) (wz : (Jvm.Cond.initialized C).before a0 Z = true) (hd : decode code pc = .ok (.new idx, 3)) (hp : pc + 3 = pc') (hc : cl + 1 ≤ rm.cells) (hs : sl + k ≤ rm.slots)
    (hr : ∀ T' h' a, n0 ≤ a → h.size ≤ a → own_Sx n0 K T' h' (cl + 1) (sl + k) → Ext h h' → Exa Z h' a C → (∀ {O nm d : String} {ty : FieldType}, Laid Z a0 C O nm d → parseFieldDescriptor d = some ty → Fld Z h' a O nm d (defaultValue ty)) → own_Fin n0 K P T' pc' L (.ref a :: S)) : own_Fin n0 K P T pc L S := by
  have hsz := X.size
  obtain ⟨p, l, e, R, s, m, args, below, meth, c⟩ := K
  obtain ⟨hx, hby, hml, hown, hret, hlk, hZ, rfl, hw⟩ := M
  obtain ⟨locs, X, hN, eT, hn, hcl, hsl⟩ := X
  obtain ⟨T1, h1, X1, e1, E1, A1, D1, -, st⟩ := newO X hx hZ hown w wi wz eT (g := mkF m pc L S) rfl (hb hby hd) hc hs
  subst hp
  obtain ⟨s2, o2, st2, r⟩ := hr T1 h1 h.size hsz (Nat.le_refl _) ⟨_, X1, hN, e1, hn, hc, hs⟩ E1 A1 D1
  exact ⟨s2, o2, st _ st2, r⟩
theorem own_getfield (M : own_Mx Z a0 K code own mx ret rm) (X : own_Sx n0 K T h cl sl) {O nm d : String} {idx : Nat} {a : Addr} {v : Value} (w : (Jvm.Cond.fieldLink own idx O nm d).before a0 Z = true) (F : Fld Z h a O nm d v) (hd : decode code pc = .ok (.getfield idx, 3)) (hp : pc + 3 = pc') (hr : ∀ T', own_Sx n0 K T' h cl sl → own_Fin n0 K P T' pc' L (v :: S)) : own_Fin n0 K P T pc L (.ref a :: S) := by
  obtain ⟨p, l, e, R, s, m, args, below, meth, c⟩ := K
  obtain ⟨hx, hby, hml, hown, hret, hlk, hZ, rfl, hw⟩ := M
  obtain ⟨locs, X, hN, eT, hn, hcl, hsl⟩ := X
  obtain ⟨T1, X1, e1, st⟩ := getF X hx hZ hown (host := "") (Or.inl w) Via.refl eT F (g := mkF m pc L (.ref a :: S)) rfl rfl (hb hby hd)
  subst hp
  obtain ⟨s2, o2, st2, r⟩ := hr T1 ⟨_, X1, hN, e1, hn, hcl, hsl⟩
  exact ⟨s2, o2, st _ st2, r⟩
theorem own_putfield (M : own_Mx Z a0 K code own mx ret rm) (X : own_Sx n0 K T h cl sl) {O nm d C : String} {idx k : Nat} {a : Addr} {v old : Value} {ty : FieldType} (w : (Jvm.Cond.fieldLink own idx O nm d).before a0 Z = true) (F : Fld Z h a O nm d old) (E : Exa Z h a C) (hL : (Jvm.Cond.lays C O nm d).before a0 Z = true ∨ ((Jvm.Cond.laysFinal C O nm d).before a0 Z = true ∧ own = O ∧ K.2.2.2.2.2.2.2.2.1.name = "<init>")) (wi : (Jvm.Cond.instantiable C k).before a0 Z = true) (hty : parseFieldDescriptor d = some ty) (hnv : narrow ty v = v) (hf : fits ty v = true) (hga : n0 ≤ a) (hd : decode code pc = .ok (.putfield idx, 3)) (hp : pc + 3 = pc')
    (hr : ∀ T' h', own_Sx n0 K T' h' cl sl → Wr h h' a (Jvm.RoadKit.slotOf Z O nm d) v → own_Fin n0 K P T' pc' L S) : own_Fin n0 K P T pc L (v :: .ref a :: S) := by
  obtain ⟨p, l, e, R, s, m, args, below, meth, c⟩ := K
  obtain ⟨hx, hby, hml, hown, hret, hlk, hZ, rfl, hw⟩ := M
  obtain ⟨locs, X, hN, eT, hn, hcl, hsl⟩ := X
  obtain ⟨T1, h1, X1, e1, W1, st⟩ := putF X hx hZ hown (host := "") (Or.inl w) Via.refl eT F E hL wi hty hnv hf (g := mkF m pc L (v :: .ref a :: S)) rfl rfl (hb hby hd)
  subst hp
  obtain ⟨s2, o2, st2, r⟩ := hr T1 h1 ⟨_, X1, Fr.snoc X1 hN hga, e1, hn, hcl, hsl⟩ W1
  exact ⟨s2, o2, st _ st2, r⟩
theorem own_initO (M : own_Mx Z a0 K code own mx ret rm) (X : own_Sx n0 K T h cl sl) {idx : Nat} {a : Addr} (w1 : (Jvm.Cond.methodLink own idx Lib.objectInit).before a0 Z = true) (w2 : (Jvm.Cond.instanceMethod Lib.objectInit).before a0 Z = true) (w3 : (Jvm.Cond.code Lib.objectInit ⟨#[0xb1]⟩ 1 none).before a0 Z = true) (hL : L.size = mx) (hd : decode code pc = .ok (.invokespecial idx, 3)) (hp : pc + 3 = pc') (hf : 1 ≤ rm.frames) (W : Nat) (hW : (S.map fun v => v.category).sum ≤ W) (hl : W + 12 ≤ rm.locals) (hr : ∀ T', own_Sx n0 K T' h cl sl → own_Fin n0 K P T' pc' L S) : own_Fin n0 K P T pc L (.ref a :: S) := by
  obtain ⟨p, l, e, R, s, m, args, below, meth, c⟩ := K
  obtain ⟨hx, hby, hml, hown, hret, hlk, hZ, rfl, hw⟩ := M
  obtain ⟨locs, X, hN, eT, hn, hcl, hsl⟩ := X
  obtain ⟨T1, X1, e1, st⟩ := initO X hx hZ hown w1 w2 w3 eT (g := mkF m pc L (.ref a :: S)) rfl (by rw [hml]; exact hL) rfl (hb hby hd) hf (W := W) (by show 2 * 0 + _ ≤ W; omega) hl
  subst hp
  obtain ⟨s2, o2, st2, r⟩ := hr T1 ⟨_, X1, hN, e1, hn, hcl, hsl⟩
  exact ⟨s2, o2, st _ st2, r⟩
theorem own_callN (M : own_Mx Z a0 K code own mx ret rm) (X : own_Sx n0 K T h cl sl) {y : MethodName} {ycode : ByteArray} {ymx : Nat} {yret : Option FieldType} {yrm : Room} {idx : Nat} {Q : Option Value → Heap → Prop} {ps : List FieldType} {yr : Option FieldType} {a : Addr} (argsL : List Value)
    (w1 : (Jvm.Cond.methodLink own idx y).before a0 Z = true) (w2 : (Jvm.Cond.instanceMethod y).before a0 Z = true) (w3 : (Jvm.Cond.initialized y.cls).before a0 Z = true) (w4 : (Jvm.Cond.code y ycode ymx yret).before a0 Z = true) (hy : y.cls ≠ "java/lang/invoke/MethodHandle" ∧ y.cls ≠ "java/lang/invoke/VarHandle") (hnm : y.name = "<init>") (hnr : yret = none)
    (hM : own_Met K.2.1 Z n0 y ycode ymx yret yrm (.ref a :: argsL).toArray h Q) (hL : L.size = mx) (hd : decode code pc = .ok (.invokespecial idx, 3)) (hp : pc + 3 = pc') (hpd : parseMethodDescriptor y.desc = some ⟨ps, yr⟩) (hlen : argsL.length = ps.length) (hS : S = argsL.reverse ++ .ref a :: rest)
    (W : Nat) (hW : (rest.map fun v => v.category).sum ≤ W) (hf : yrm.frames + 1 ≤ rm.frames) (hl : W + (ymx + 11) + yrm.locals ≤ rm.locals) (hc : cl + yrm.cells ≤ rm.cells) (hs : sl + yrm.slots ≤ rm.slots)
    (hr : ∀ T' h' v, own_Sx n0 K T' h' (cl + yrm.cells) (sl + yrm.slots) → Q v h' → own_Fin n0 K P T' pc' L (v.toList ++ rest)) : own_Fin n0 K P T pc L S := by
  obtain ⟨p, l, e, R, s, m, args, below, meth, c⟩ := K
  obtain ⟨hx, hby, hml, hown, hret, hlk, hZ, rfl, hw⟩ := M
  obtain ⟨locs, X, hN, eT, hn, hcl, hsl⟩ := X
  subst hnr
  obtain ⟨v, vm1, ⟨T1, L1, k1, n1⟩, -, X1, ⟨Lc, hQ, l1, y1, z1⟩, st⟩ := X.specialBack hx (y := y) hnm hown (mvT hZ w1) (mvT hZ w2) (mvT hZ w4) hy (backOf (W := W) (Q := fun v h L => Q v h ∧ Fr n0 L) (hM []) hZ w4 w3 hf hl) (g := mkF m pc L S) rfl (by rw [hml]; exact hL) (Steps.refl _) (a := a) (argsL := argsL) (rest := rest) (lenOf hpd hlen) hS (by show 2 * 0 + _ ≤ W; omega) (hb hby hd) (fun _ _ => ⟨rfl, eT, hc, hs⟩)
  dsimp only [Pt.U, Pt.locs, Pt.cells, Pt.slots] at X1 l1 y1 z1 st hQ
  subst l1 y1 z1 hp
  obtain ⟨s2, o2, st2, r⟩ := hr T1 _ v ⟨_, X1, Fr.app hN hQ.2, rfl, hn, hc, hs⟩ hQ.1
  exact ⟨s2, o2, st.trans st2, r⟩
theorem own_callV (M : own_Mx Z a0 K code own mx ret rm) (X : own_Sx n0 K T h cl sl) {y : MethodName} {ycode : ByteArray} {ymx : Nat} {yret : Option FieldType} {yrm : Room} {idx : Nat} {Q : Option Value → Heap → Prop} {ps : List FieldType} {yr : Option FieldType} {a : Addr} (argsL : List Value)
    (w1 : (Jvm.Cond.methodLink own idx y).before a0 Z = true) (w2 : (Jvm.Cond.instanceMethod y).before a0 Z = true) (w5 : (Jvm.Cond.declares y).before a0 Z = true) (w6 : (Jvm.Cond.selects y.cls y y).before a0 Z = true) (w3 : (Jvm.Cond.initialized y.cls).before a0 Z = true) (w4 : (Jvm.Cond.code y ycode ymx yret).before a0 Z = true) (hy : y.cls ≠ "java/lang/invoke/MethodHandle" ∧ y.cls ≠ "java/lang/invoke/VarHandle") (E : Exa Z h a y.cls)
    (hM : own_Met K.2.1 Z n0 y ycode ymx yret yrm (.ref a :: argsL).toArray h Q) (hL : L.size = mx) (hd : decode code pc = .ok (.invokevirtual idx, 3)) (hp : pc + 3 = pc') (hpd : parseMethodDescriptor y.desc = some ⟨ps, yr⟩) (hlen : argsL.length = ps.length) (hS : S = argsL.reverse ++ .ref a :: rest)
    (W : Nat) (hW : (rest.map fun v => v.category).sum ≤ W) (hf : yrm.frames + 1 ≤ rm.frames) (hl : W + (ymx + 11) + yrm.locals ≤ rm.locals) (hc : cl + yrm.cells ≤ rm.cells) (hs : sl + yrm.slots ≤ rm.slots)
    (hr : ∀ T' h' v, own_Sx n0 K T' h' (cl + yrm.cells) (sl + yrm.slots) → Q v h' → own_Fin n0 K P T' pc' L (v.toList ++ rest)) : own_Fin n0 K P T pc L S := by
  obtain ⟨p, l, e, R, s, m, args, below, meth, c⟩ := K
  obtain ⟨hx, hby, hml, hown, hret, hlk, hZ, rfl, hw⟩ := M
  obtain ⟨locs, X, hN, eT, hn, hcl, hsl⟩ := X
  obtain ⟨cq, kq, qa, qb, qc⟩ := isOf hZ eT E
  obtain ⟨v, vm1, ⟨T1, L1, k1, n1⟩, -, X1, ⟨Lc, hQ, l1, y1, z1⟩, st⟩ := X.virtualBack hx (y := y) (z := y) hown (mvT hZ w1) (mvT hZ w5) (notFace_of_selects (args := #[]) (mvT hZ w6)) (mvT hZ w6) (mvT hZ w2) hy (backOf (W := W) (Q := fun v h L => Q v h ∧ Fr n0 L) (hM []) hZ w4 w3 hf hl) qa qc (g := mkF m pc L S) rfl (by rw [hml]; exact hL) (Steps.refl _) (argsL := argsL) (rest := rest) (lenOf hpd hlen) hS (by show 2 * 0 + _ ≤ W; omega) (hb hby hd) (fun _ _ => ⟨rfl, eT, hc, hs⟩)
  dsimp only [Pt.U, Pt.locs, Pt.cells, Pt.slots] at X1 l1 y1 z1 st hQ
  subst l1 y1 z1 hp
  obtain ⟨s2, o2, st2, r⟩ := hr T1 _ v ⟨_, X1, Fr.app hN hQ.2, rfl, hn, hc, hs⟩ hQ.1
  exact ⟨s2, o2, st.trans st2, r⟩
theorem own_selPriv {s : State} {args : Array Value} {n : Nat} {y : MethodName} (hins : (Jvm.Cond.instantiable y.cls n).before args s = true) (hpriv : (Jvm.Cond.privateMethod y).before args s = true) (hinst : (Jvm.Cond.instanceMethod y).before args s = true) (hy : y.cls ≠ "java/lang/invoke/MethodHandle" ∧ y.cls ≠ "java/lang/invoke/VarHandle") : (Jvm.Cond.selects y.cls y y).before args s = true := by
  obtain ⟨c, k, hc, hk, -, hniab, -, -⟩ := Cond.instantiable_spec hins
  have hni : k.isInterface = false := (Bool.or_eq_false_iff.mp hniab).1
  obtain ⟨mk, methM, hnamed, hmethM, -, -⟩ := Cond.instanceMethod_spec hinst
  have hfound : s.methodFound? y.cls y.name y.desc = some mk := State.methodFound?_of_named hnamed hy
  have hcls : mk.cls = c := Option.some.inj ((findClass_of_methodNamed hnamed).symm.trans hc)
  have hsel : selectMethod {} s.vm c mk = .method mk := selectMethod_private hmethM (Cond.privateMethod_at hpriv mk methM hnamed hmethM)
  simp only [Cond.before, Cond.holds, Cond.value, hc, hfound, hnamed, hsel, hcls, hk]
  simp; exact hni
theorem own_callPriv (M : own_Mx Z a0 K code own mx ret rm) (X : own_Sx n0 K T h cl sl) {y : MethodName} {ycode : ByteArray} {ymx : Nat} {yret : Option FieldType} {yrm : Room} {idx : Nat} {Q : Option Value → Heap → Prop} {ps : List FieldType} {yr : Option FieldType} {a : Addr} (argsL : List Value)
    (w1 : (Jvm.Cond.methodLink own idx y).before a0 Z = true) (w2 : (Jvm.Cond.instanceMethod y).before a0 Z = true) (w5 : (Jvm.Cond.privateMethod y).before a0 Z = true) {kk : Nat} (w6 : (Jvm.Cond.instantiable y.cls kk).before a0 Z = true) (w3 : (Jvm.Cond.initialized y.cls).before a0 Z = true) (w4 : (Jvm.Cond.code y ycode ymx yret).before a0 Z = true) (hy : y.cls ≠ "java/lang/invoke/MethodHandle" ∧ y.cls ≠ "java/lang/invoke/VarHandle") (E : Exa Z h a y.cls)
    (hM : own_Met K.2.1 Z n0 y ycode ymx yret yrm (.ref a :: argsL).toArray h Q) (hL : L.size = mx) (hd : decode code pc = .ok (.invokevirtual idx, 3)) (hp : pc + 3 = pc') (hpd : parseMethodDescriptor y.desc = some ⟨ps, yr⟩) (hlen : argsL.length = ps.length) (hS : S = argsL.reverse ++ .ref a :: rest)
    (W : Nat) (hW : (rest.map fun v => v.category).sum ≤ W) (hf : yrm.frames + 1 ≤ rm.frames) (hl : W + (ymx + 11) + yrm.locals ≤ rm.locals) (hc : cl + yrm.cells ≤ rm.cells) (hs : sl + yrm.slots ≤ rm.slots)
    (hr : ∀ T' h' v, own_Sx n0 K T' h' (cl + yrm.cells) (sl + yrm.slots) → Q v h' → own_Fin n0 K P T' pc' L (v.toList ++ rest)) : own_Fin n0 K P T pc L S := by
  obtain ⟨p, l, e, R, s, m, args, below, meth, c⟩ := K
  obtain ⟨hx, hby, hml, hown, hret, hlk, hZ, rfl, hw⟩ := M
  obtain ⟨locs, X, hN, eT, hn, hcl, hsl⟩ := X
  obtain ⟨cq, qa, qb⟩ := E.cell
  obtain ⟨v, vm1, ⟨T1, L1, k1, n1⟩, -, X1, ⟨Lc, hQ, l1, y1, z1⟩, st⟩ := X.privateBack hx (y := y) hown (mvT hZ w1) (mvT hZ w2) (own_selPriv (mvT hZ w6) (mvP hZ w5) (mvT hZ w2) hy) (Cond.privateMethod_at (mvP hZ w5 (args := #[]))) (mvT hZ w4) hy (backOf (W := W) (Q := fun v h L => Q v h ∧ Fr n0 L) (hM []) hZ w4 w3 hf hl) (g := mkF m pc L S) rfl (by rw [hml]; exact hL) (Steps.refl _) (a := a) (by rw [eT]; exact qa) qb (argsL := argsL) (rest := rest) (lenOf hpd hlen) hS (by show 2 * 0 + _ ≤ W; omega) (hb hby hd) (fun _ _ => ⟨rfl, eT, hc, hs⟩)
  dsimp only [Pt.U, Pt.locs, Pt.cells, Pt.slots] at X1 l1 y1 z1 st hQ
  subst l1 y1 z1 hp
  obtain ⟨s2, o2, st2, r⟩ := hr T1 _ v ⟨_, X1, Fr.app hN hQ.2, rfl, hn, hc, hs⟩ hQ.1
  exact ⟨s2, o2, st.trans st2, r⟩
theorem own_callNP0 (M : own_Mx Z a0 K code own mx ret rm) (X : own_Sx n0 K T h cl sl) {y : MethodName} {ycode : ByteArray} {ymx : Nat} {yret : Option FieldType} {yrm : Room} {idx : Nat} {ps : List FieldType} {yr : Option FieldType} {a : Addr} (argsL : List Value)
    (w1 : (Jvm.Cond.methodLink own idx y).before a0 Z = true) (w2 : (Jvm.Cond.instanceMethod y).before a0 Z = true) (w3 : (Jvm.Cond.initialized y.cls).before a0 Z = true) (w4 : (Jvm.Cond.code y ycode ymx yret).before a0 Z = true) (hy : y.cls ≠ "java/lang/invoke/MethodHandle" ∧ y.cls ≠ "java/lang/invoke/VarHandle") (hnm : y.name = "<init>") (hnr : yret = none)
    (hM : own_Met K.2.1 Z n0 y ycode ymx yret yrm (.ref a :: argsL).toArray h (fun v h' => v = none ∧ h' = h)) (hL : L.size = mx) (hd : decode code pc = .ok (.invokespecial idx, 3)) (hp : pc + 3 = pc') (hpd : parseMethodDescriptor y.desc = some ⟨ps, yr⟩) (hlen : argsL.length = ps.length) (hS : S = argsL.reverse ++ .ref a :: rest)
    (W : Nat) (hW : (rest.map fun v => v.category).sum ≤ W) (hf : yrm.frames + 1 ≤ rm.frames) (hl : W + (ymx + 11) + yrm.locals ≤ rm.locals) (hc0 : yrm.cells = 0) (hs0 : yrm.slots = 0)
    (hr : ∀ T', own_Sx n0 K T' h cl sl → own_Fin n0 K P T' pc' L (rest)) : own_Fin n0 K P T pc L S := by
  have hcs : cl ≤ rm.cells ∧ sl ≤ rm.slots := by
    obtain ⟨p, l, e, R, s, m, args, below, meth, c⟩ := K
    obtain ⟨hx, hby, hml, hown, hret, hlk, hZ, rfl, hw⟩ := M
    obtain ⟨locs, X, hN, eT, hn, hcl, hsl⟩ := X
    exact ⟨hcl, hsl⟩
  refine own_callN M X argsL w1 w2 w3 w4 hy hnm hnr hM hL hd hp hpd hlen hS W hW hf hl (by rw [hc0]; exact hcs.1) (by rw [hs0]; exact hcs.2) ?_
  rintro T' h' v X' ⟨rfl, rfl⟩
  rw [hc0, hs0] at X'
  exact hr T' X'
theorem own_callVP (M : own_Mx Z a0 K code own mx ret rm) (X : own_Sx n0 K T h cl sl) {y : MethodName} {ycode : ByteArray} {ymx : Nat} {yret : Option FieldType} {yrm : Room} {idx : Nat} {ps : List FieldType} {yr : Option FieldType} {a : Addr} {w : Value} (argsL : List Value)
    (w1 : (Jvm.Cond.methodLink own idx y).before a0 Z = true) (w2 : (Jvm.Cond.instanceMethod y).before a0 Z = true) (w5 : (Jvm.Cond.declares y).before a0 Z = true) (w6 : (Jvm.Cond.selects y.cls y y).before a0 Z = true) (w3 : (Jvm.Cond.initialized y.cls).before a0 Z = true) (w4 : (Jvm.Cond.code y ycode ymx yret).before a0 Z = true) (hy : y.cls ≠ "java/lang/invoke/MethodHandle" ∧ y.cls ≠ "java/lang/invoke/VarHandle") (E : Exa Z h a y.cls)
    (hM : own_Met K.2.1 Z n0 y ycode ymx yret yrm (.ref a :: argsL).toArray h (fun v h' => v = some w ∧ h' = h)) (hL : L.size = mx) (hd : decode code pc = .ok (.invokevirtual idx, 3)) (hp : pc + 3 = pc') (hpd : parseMethodDescriptor y.desc = some ⟨ps, yr⟩) (hlen : argsL.length = ps.length) (hS : S = argsL.reverse ++ .ref a :: rest)
    (W : Nat) (hW : (rest.map fun v => v.category).sum ≤ W) (hf : yrm.frames + 1 ≤ rm.frames) (hl : W + (ymx + 11) + yrm.locals ≤ rm.locals) (hc0 : yrm.cells = 0) (hs0 : yrm.slots = 0)
    (hr : ∀ T', own_Sx n0 K T' h cl sl → own_Fin n0 K P T' pc' L (w :: rest)) : own_Fin n0 K P T pc L S := by
  have hcs : cl ≤ rm.cells ∧ sl ≤ rm.slots := by
    obtain ⟨p, l, e, R, s, m, args, below, meth, c⟩ := K
    obtain ⟨hx, hby, hml, hown, hret, hlk, hZ, rfl, hw⟩ := M
    obtain ⟨locs, X, hN, eT, hn, hcl, hsl⟩ := X
    exact ⟨hcl, hsl⟩
  refine own_callV M X argsL w1 w2 w5 w6 w3 w4 hy E hM hL hd hp hpd hlen hS W hW hf hl (by rw [hc0]; exact hcs.1) (by rw [hs0]; exact hcs.2) ?_
  rintro T' h' v X' ⟨rfl, rfl⟩
  rw [hc0, hs0] at X'
  exact hr T' X'
theorem own_callVP0 (M : own_Mx Z a0 K code own mx ret rm) (X : own_Sx n0 K T h cl sl) {y : MethodName} {ycode : ByteArray} {ymx : Nat} {yret : Option FieldType} {yrm : Room} {idx : Nat} {ps : List FieldType} {yr : Option FieldType} {a : Addr} (argsL : List Value)
    (w1 : (Jvm.Cond.methodLink own idx y).before a0 Z = true) (w2 : (Jvm.Cond.instanceMethod y).before a0 Z = true) (w5 : (Jvm.Cond.declares y).before a0 Z = true) (w6 : (Jvm.Cond.selects y.cls y y).before a0 Z = true) (w3 : (Jvm.Cond.initialized y.cls).before a0 Z = true) (w4 : (Jvm.Cond.code y ycode ymx yret).before a0 Z = true) (hy : y.cls ≠ "java/lang/invoke/MethodHandle" ∧ y.cls ≠ "java/lang/invoke/VarHandle") (E : Exa Z h a y.cls)
    (hM : own_Met K.2.1 Z n0 y ycode ymx yret yrm (.ref a :: argsL).toArray h (fun v h' => v = none ∧ h' = h)) (hL : L.size = mx) (hd : decode code pc = .ok (.invokevirtual idx, 3)) (hp : pc + 3 = pc') (hpd : parseMethodDescriptor y.desc = some ⟨ps, yr⟩) (hlen : argsL.length = ps.length) (hS : S = argsL.reverse ++ .ref a :: rest)
    (W : Nat) (hW : (rest.map fun v => v.category).sum ≤ W) (hf : yrm.frames + 1 ≤ rm.frames) (hl : W + (ymx + 11) + yrm.locals ≤ rm.locals) (hc0 : yrm.cells = 0) (hs0 : yrm.slots = 0)
    (hr : ∀ T', own_Sx n0 K T' h cl sl → own_Fin n0 K P T' pc' L (rest)) : own_Fin n0 K P T pc L S := by
  have hcs : cl ≤ rm.cells ∧ sl ≤ rm.slots := by
    obtain ⟨p, l, e, R, s, m, args, below, meth, c⟩ := K
    obtain ⟨hx, hby, hml, hown, hret, hlk, hZ, rfl, hw⟩ := M
    obtain ⟨locs, X, hN, eT, hn, hcl, hsl⟩ := X
    exact ⟨hcl, hsl⟩
  refine own_callV M X argsL w1 w2 w5 w6 w3 w4 hy E hM hL hd hp hpd hlen hS W hW hf hl (by rw [hc0]; exact hcs.1) (by rw [hs0]; exact hcs.2) ?_
  rintro T' h' v X' ⟨rfl, rfl⟩
  rw [hc0, hs0] at X'
  exact hr T' X'
theorem own_callPrivP (M : own_Mx Z a0 K code own mx ret rm) (X : own_Sx n0 K T h cl sl) {y : MethodName} {ycode : ByteArray} {ymx : Nat} {yret : Option FieldType} {yrm : Room} {idx : Nat} {ps : List FieldType} {yr : Option FieldType} {a : Addr} {w : Value} (argsL : List Value)
    (w1 : (Jvm.Cond.methodLink own idx y).before a0 Z = true) (w2 : (Jvm.Cond.instanceMethod y).before a0 Z = true) (w5 : (Jvm.Cond.privateMethod y).before a0 Z = true) {kk : Nat} (w6 : (Jvm.Cond.instantiable y.cls kk).before a0 Z = true) (w3 : (Jvm.Cond.initialized y.cls).before a0 Z = true) (w4 : (Jvm.Cond.code y ycode ymx yret).before a0 Z = true) (hy : y.cls ≠ "java/lang/invoke/MethodHandle" ∧ y.cls ≠ "java/lang/invoke/VarHandle") (E : Exa Z h a y.cls)
    (hM : own_Met K.2.1 Z n0 y ycode ymx yret yrm (.ref a :: argsL).toArray h (fun v h' => v = some w ∧ h' = h)) (hL : L.size = mx) (hd : decode code pc = .ok (.invokevirtual idx, 3)) (hp : pc + 3 = pc') (hpd : parseMethodDescriptor y.desc = some ⟨ps, yr⟩) (hlen : argsL.length = ps.length) (hS : S = argsL.reverse ++ .ref a :: rest)
    (W : Nat) (hW : (rest.map fun v => v.category).sum ≤ W) (hf : yrm.frames + 1 ≤ rm.frames) (hl : W + (ymx + 11) + yrm.locals ≤ rm.locals) (hc0 : yrm.cells = 0) (hs0 : yrm.slots = 0)
    (hr : ∀ T', own_Sx n0 K T' h cl sl → own_Fin n0 K P T' pc' L (w :: rest)) : own_Fin n0 K P T pc L S := by
  have hcs : cl ≤ rm.cells ∧ sl ≤ rm.slots := by
    obtain ⟨p, l, e, R, s, m, args, below, meth, c⟩ := K
    obtain ⟨hx, hby, hml, hown, hret, hlk, hZ, rfl, hw⟩ := M
    obtain ⟨locs, X, hN, eT, hn, hcl, hsl⟩ := X
    exact ⟨hcl, hsl⟩
  refine own_callPriv M X argsL w1 w2 w5 w6 w3 w4 hy E hM hL hd hp hpd hlen hS W hW hf hl (by rw [hc0]; exact hcs.1) (by rw [hs0]; exact hcs.2) ?_
  rintro T' h' v X' ⟨rfl, rfl⟩
  rw [hc0, hs0] at X'
  exact hr T' X'
theorem own_callPrivP0 (M : own_Mx Z a0 K code own mx ret rm) (X : own_Sx n0 K T h cl sl) {y : MethodName} {ycode : ByteArray} {ymx : Nat} {yret : Option FieldType} {yrm : Room} {idx : Nat} {ps : List FieldType} {yr : Option FieldType} {a : Addr} (argsL : List Value)
    (w1 : (Jvm.Cond.methodLink own idx y).before a0 Z = true) (w2 : (Jvm.Cond.instanceMethod y).before a0 Z = true) (w5 : (Jvm.Cond.privateMethod y).before a0 Z = true) {kk : Nat} (w6 : (Jvm.Cond.instantiable y.cls kk).before a0 Z = true) (w3 : (Jvm.Cond.initialized y.cls).before a0 Z = true) (w4 : (Jvm.Cond.code y ycode ymx yret).before a0 Z = true) (hy : y.cls ≠ "java/lang/invoke/MethodHandle" ∧ y.cls ≠ "java/lang/invoke/VarHandle") (E : Exa Z h a y.cls)
    (hM : own_Met K.2.1 Z n0 y ycode ymx yret yrm (.ref a :: argsL).toArray h (fun v h' => v = none ∧ h' = h)) (hL : L.size = mx) (hd : decode code pc = .ok (.invokevirtual idx, 3)) (hp : pc + 3 = pc') (hpd : parseMethodDescriptor y.desc = some ⟨ps, yr⟩) (hlen : argsL.length = ps.length) (hS : S = argsL.reverse ++ .ref a :: rest)
    (W : Nat) (hW : (rest.map fun v => v.category).sum ≤ W) (hf : yrm.frames + 1 ≤ rm.frames) (hl : W + (ymx + 11) + yrm.locals ≤ rm.locals) (hc0 : yrm.cells = 0) (hs0 : yrm.slots = 0)
    (hr : ∀ T', own_Sx n0 K T' h cl sl → own_Fin n0 K P T' pc' L (rest)) : own_Fin n0 K P T pc L S := by
  have hcs : cl ≤ rm.cells ∧ sl ≤ rm.slots := by
    obtain ⟨p, l, e, R, s, m, args, below, meth, c⟩ := K
    obtain ⟨hx, hby, hml, hown, hret, hlk, hZ, rfl, hw⟩ := M
    obtain ⟨locs, X, hN, eT, hn, hcl, hsl⟩ := X
    exact ⟨hcl, hsl⟩
  refine own_callPriv M X argsL w1 w2 w5 w6 w3 w4 hy E hM hL hd hp hpd hlen hS W hW hf hl (by rw [hc0]; exact hcs.1) (by rw [hs0]; exact hcs.2) ?_
  rintro T' h' v X' ⟨rfl, rfl⟩
  rw [hc0, hs0] at X'
  exact hr T' X'
theorem own_Va.arv {a : Addr} {ty : FieldType} {n : Nat} {f : Nat → Value} (V : own_Va Z h a ty n f) : ∃ k, ∀ dv, Arv Z h a k ty (Int32.ofNat n) ((List.range n).map f) dv := by
  obtain ⟨c, A, r1, r2, r3, r4⟩ := V
  have e : (Int32.ofNat n).toInt = n := Int32.toInt_ofNat_of_lt r2
  have g : ∀ dv j, j < n → ((List.range n).map f).getD j dv = f j := fun dv j hj => by simp [List.getD, hj]
  refine ⟨c.cls, fun dv => ⟨c, A, rfl, by rw [own_nat e]; exact r1, by rw [Int32.lt_iff_toInt_lt, e, Int32.toInt_zero]; omega, fun j hj => ?_, fun j hj => ?_⟩⟩
  · rw [g dv j (by omega)]; exact r3 j (by omega)
  · rw [g dv j (by omega)]; exact r4 j (by omega)
theorem own_Va.of_arv {a : Addr} {ty : FieldType} {n : Nat} {k : ClassId} {z : Int32} {vs : List Value} {dv : Value} {f : Nat → Value} (V : Arv Z h a k ty z vs dv) (hz : z.toInt = n) (hf : ∀ j, j < n → vs.getD j dv = f j) : own_Va Z h a ty n f := by
  obtain ⟨c, A, -, S, -, H, G⟩ := V
  rw [own_nat hz] at S
  exact ⟨c, A, S, by have := z.toInt_lt; omega, fun j hj => by rw [← hf j hj]; exact H j (by omega), fun j hj => by rw [← hf j hj]; exact G j (by omega)⟩
theorem own_cpl {α : Type} (f g : Nat → α) (na nb i j k t : Nat) (h4 : i + k ≤ na) (h5 : j + k ≤ nb) (ht : t < nb) (d : α) :
    (((List.range nb).map g).take j ++ (List.range k).map (fun q => ((List.range na).map f).getD (i + q) d) ++ ((List.range nb).map g).drop (j + k)).getD t d = if j ≤ t ∧ t < j + k then f (i + (t - j)) else g t := by
  have e1 : min j nb = j := by omega
  rw [List.getD_eq_getElem?_getD, List.getElem?_append, List.getElem?_append]
  simp only [List.length_append, List.length_take, List.length_map, List.length_range, e1]
  by_cases q1 : t < j
  · have n1 : ¬ (j ≤ t ∧ t < j + k) := by omega
    have n2 : t < j + k := by omega
    rw [if_neg n1, if_pos n2, if_pos q1, List.getElem?_take, if_pos q1]
    simp [ht]
  · by_cases q2 : t < j + k
    · have n1 : j ≤ t ∧ t < j + k := by omega
      have n2 : t - j < k := by omega
      have n3 : i + (t - j) < na := by omega
      rw [if_pos n1, if_pos q2, if_neg q1]
      simp [n2, n3]
    · have n1 : ¬ (j ≤ t ∧ t < j + k) := by omega
      have n3 : j + k + (t - (j + k)) = t := by omega
      rw [if_neg n1, if_neg q2, List.getElem?_drop, n3]
      simp [ht]
theorem own_arraycopy (M : own_Mx Z a0 K code own mx ret rm) (X : own_Sx n0 K T h cl sl) {idx : Nat} {a b : Addr} {ty : FieldType} {na nb i j k : Nat} {f g : Nat → Value} {sp dp nn : Int32}
    (w1 : (Jvm.Cond.methodLink own idx Jvm.Stand.acN).before a0 Z = true) (w2 : (Jvm.Cond.native Jvm.Stand.acN).before a0 Z = true) (w3 : (Jvm.Cond.static Jvm.Stand.acN).before a0 Z = true) (w4 : (Jvm.Cond.initialized "java/lang/System").before a0 Z = true)
    (A : own_Va Z h a ty na f) (B : own_Va Z h b ty nb g) (hty : refKind ty = false) (hsp : sp.toInt = i) (hdp : dp.toInt = j) (hnn : nn.toInt = k) (h4 : i + k ≤ na) (h5 : j + k ≤ nb) (hgb : n0 ≤ b) (hL : L.size = mx) (hd : decode code pc = .ok (.invokestatic idx, 3)) (hp : pc + 3 = pc')
    (hf : 1 ≤ rm.frames) (W : Nat) (hW : (S.map fun v => v.category).sum ≤ W) (hlo : W + 18 ≤ rm.locals)
    (hr : ∀ T' h', own_Sx n0 K T' h' cl sl → Keep h h' [b] → own_Va Z h' b ty nb (fun t => if j ≤ t ∧ t < j + k then f (i + (t - j)) else g t) → own_Fin n0 K P T' pc' L S) : own_Fin n0 K P T pc L (.int nn :: .int dp :: .ref b :: .int sp :: .ref a :: S) := by
  obtain ⟨p, l, e, R, s, m, args, below, meth, c⟩ := K
  obtain ⟨hx, hby, hml, hown, hret, hlk, hZ, rfl, hw⟩ := M
  obtain ⟨locs, X, hN, eT, hn, hcl, hsl⟩ := X
  have sa := A.small
  have sb := B.small
  obtain ⟨ka, A⟩ := A.arv
  obtain ⟨kb, B⟩ := B.arv
  have ea : (Int32.ofNat na).toInt = na := Int32.toInt_ofNat_of_lt sa
  have eb : (Int32.ofNat nb).toInt = nb := Int32.toInt_ofNat_of_lt sb
  have nneg : ∀ {x : Int32} {q : Nat}, x.toInt = q → ¬ x < 0 := fun {x q} z => by rw [Int32.lt_iff_toInt_lt, z, Int32.toInt_zero]; omega
  obtain ⟨T1, h1, L1, X1, e1, N1, K1, B1, st⟩ := cpA X hx hZ hown w1 w2 w3 w4 eT (A .null) (B .null) (Or.inl ⟨rfl, hty⟩) (nneg hsp) (nneg hdp) (nneg hnn) (by rw [own_nat hsp, own_nat hnn, own_nat ea]; exact h4) (by rw [own_nat hdp, own_nat hnn, own_nat eb]; exact h5) rfl (by simp [own_nat hdp, own_nat hnn]; exact h5) hN hgb (g := mkF m pc L (.int nn :: .int dp :: .ref b :: .int sp :: .ref a :: S)) rfl (by rw [hml]; exact hL) rfl (hb hby hd) hf (W := W) (by show 2 * 0 + _ ≤ W; omega) hlo
  subst hp
  obtain ⟨s2, o2, st2, r⟩ := hr T1 h1 ⟨_, X1, N1, e1, hn, hcl, hsl⟩ K1 (own_Va.of_arv B1 eb (fun t ht => by
    rw [own_nat hsp, own_nat hdp, own_nat hnn]
    exact own_cpl f g na nb i j k t h4 h5 ht .null))
  exact ⟨s2, o2, st _ st2, r⟩
end OwnLayer
theorem own_pd0 : parseMethodDescriptor "(II)I" = some ⟨[.int, .int], some .int⟩ := by decide +kernel
theorem own_pd1 : parseMethodDescriptor "()V" = some ⟨[], none⟩ := by decide +kernel
theorem own_pd2 : parseMethodDescriptor "(I)Z" = some ⟨[.int], some .boolean⟩ := by decide +kernel
theorem own_pd3 : parseMethodDescriptor "(I)V" = some ⟨[.int], none⟩ := by decide +kernel
theorem own_pd4 : parseMethodDescriptor "()I" = some ⟨[], some .int⟩ := by decide +kernel
theorem own_inc {i : Int32} {t : Nat} (h : i.toInt = t) (ht : t < 2147483647) : (i + (1 : Int32)).toInt = ((t + 1 : Nat) : Int) := by
  have e : (1 : Int32).toInt = 1 := by decide
  rw [Jvm.Kit.i32_add (by omega) (by omega), e, h]; omega
theorem d1_0 : decode jdk_29_method_69_code 0 = .ok (.iload_n 0, 1) := by decide +kernel
theorem d1_1 : decode jdk_29_method_69_code 1 = .ok (.iload_n 1, 1) := by decide +kernel
theorem d1_2 : decode jdk_29_method_69_code 2 = .ok (.if_icmp .gt 7, 3) := by decide +kernel
theorem d1_5 : decode jdk_29_method_69_code 5 = .ok (.iload_n 0, 1) := by decide +kernel
theorem d1_6 : decode jdk_29_method_69_code 6 = .ok (.goto 4, 3) := by decide +kernel
theorem d1_9 : decode jdk_29_method_69_code 9 = .ok (.iload_n 1, 1) := by decide +kernel
theorem d1_10 : decode jdk_29_method_69_code 10 = .ok (.ireturn, 1) := by decide +kernel
def F1 (x0 : Int32) (x1 : Int32) : Int32 := (if x1 < x0 then x1 else x0)
set_option maxRecDepth 65536 in
set_option maxHeartbeats 40000000 in
theorem met_1 (l : Launch) (Z : State) (a0 : Array Value) (hw : ∀ d ∈ tables_1, d.before a0 Z = true) (h0 : Heap) (n0 : Nat) (hn : n0 ≤ h0.size) (x0 : Int32) (x1 : Int32) : own_Met l Z n0 (⟨"java/lang/Math", "min", "(II)I"⟩ : MethodName) jdk_29_method_69_code 2 (some .int) ({ frames := 0, cells := 0, slots := 0, locals := 0 } : Room) #[(.int x0), (.int x1)] h0 (fun v h => v = some (.int (F1 x0 x1)) ∧ h = h0) := by
  refine own_enter (L := #[.val (.int x0), .val (.int x1)]) (Jvm.Free.JP.mathPlain rfl (by decide +kernel)) hw hn (fun m => by first | (simp [entryFrame, mkF, argsToLocals, Value.category]; done) | rfl) (fun K T hK M X => ?_)
  refine own_iloadN M X d1_0 rfl rfl ?_
  refine own_iloadN M X d1_1 rfl rfl ?_
  refine own_icmp_gt M X d1_2 (by decide) rfl rfl (fun q1 => ?_) (fun q1 => ?_)
  · skip
    refine own_iloadN M X d1_9 rfl rfl ?_
    exact own_retI M X d1_10 ⟨by rw [F1, if_pos q1], rfl⟩
  · skip
    refine own_iloadN M X d1_5 rfl rfl ?_
    refine own_goto M X d1_6 (by decide) rfl ?_
    exact own_retI M X d1_10 ⟨by rw [F1, if_neg q1], rfl⟩
def own_Is (Z : State) (h : Heap) (n0 : Nat) (a : Addr) (vs : List Int32) : Prop :=
  Exa Z h a "com/example/mangrove/mangrove/reasoner/IntStack" ∧ Fld Z h a "com/example/mangrove/mangrove/reasoner/IntStack" "size" "I" (.int (Int32.ofNat vs.length)) ∧ ∃ (b : Addr) (f : Nat → Int32), n0 ≤ b ∧ a ≠ b ∧ Fld Z h a "com/example/mangrove/mangrove/reasoner/IntStack" "values" "[I" (.ref b) ∧ own_Va Z h b .int 16 (fun j => .int (f j)) ∧ ∀ j, j < vs.length → f j = vs.getD j 0
def own_ct : List Int32 → Int32 → Int32
  | [], _ => 0
  | y :: ys, v => if y = v then 1 else own_ct ys v
def own_ctk (f : Nat → Int32) (v : Int32) : Nat → Nat → Int32
  | 0, _ => (0 : Int32)
  | k + 1, t => if (f t) = v then (1 : Int32) else own_ctk f v k (t + 1)
theorem own_ctE (f : Nat → Int32) (v : Int32) : ∀ (vs : List Int32) (t : Nat), (∀ j, j < vs.length → f (t + j) = vs.getD j 0) → own_ctk f v vs.length t = own_ct vs v
  | [], _, _ => rfl
  | y :: ys, t, h => by
    have h0 : f t = y := by simpa using h 0 (by simp)
    have ih := own_ctE f v ys (t + 1) (fun j hj => by have := h (j + 1) (by simpa using hj); rw [show t + 1 + j = t + (j + 1) from by omega, this]; simp)
    show (if (f t) = v then (1 : Int32) else own_ctk f v ys.length (t + 1)) = _
    rw [own_ct, h0, ih]
theorem own_ofs {n : Nat} (h : n ≤ 16) : (Int32.ofNat n).toInt = n := Int32.toInt_ofNat_of_lt (by omega)
theorem own_szA {n : Nat} (h : n < 16) : Int32.ofNat n + (1 : Int32) = Int32.ofNat (n + 1) := by
  have l1 : (1 : Int32).toInt = 1 := by decide
  have e := own_ofs (n := n) (by omega)
  refine Int32.toInt_inj.mp ?_
  rw [Jvm.Kit.i32_add (by omega) (by omega), e, l1, own_ofs (by omega)]; omega
theorem own_szS {n : Nat} (h : n < 16) : Int32.ofNat (n + 1) - (1 : Int32) = Int32.ofNat n := by
  have l1 : (1 : Int32).toInt = 1 := by decide
  have e := own_ofs (n := n + 1) (by omega)
  refine Int32.toInt_inj.mp ?_
  rw [Jvm.Kit.i32_sub (by omega) (by omega), e, l1, own_ofs (by omega)]; omega
def own_updI (f : Nat → Int32) (i : Nat) (v : Int32) : Nat → Int32 := fun j => if j = i then v else f j
theorem own_updIV {f : Nat → Int32} {i j : Nat} {v : Int32} : own_upd (fun j => .int (f j)) i (.int v) j = (fun j => .int (own_updI f i v j)) j := by
  by_cases q : j = i <;> simp [own_upd, own_updI, q]
theorem own_isP {f : Nat → Int32} {vs : List Int32} {x : Int32} (h : ∀ j, j < vs.length → f j = vs.getD j 0) : ∀ j, j < (vs ++ [x]).length → own_updI f vs.length x j = (vs ++ [x]).getD j 0 := fun j hj => by
  by_cases q : j = vs.length
  · subst q; simp [own_updI]
  · have hj' : j < vs.length := by simp at hj; omega
    rw [own_updI, if_neg q, h j hj']; simp [List.getElem?_append_left hj']
theorem own_isQ {f : Nat → Int32} {us : List Int32} {y : Int32} (h : ∀ j, j < (us ++ [y]).length → f j = (us ++ [y]).getD j 0) : (∀ j, j < us.length → f j = us.getD j 0) ∧ f us.length = y := by
  refine ⟨fun j hj => ?_, ?_⟩
  · rw [h j (by simp; omega)]; simp [List.getElem?_append_left hj]
  · rw [h us.length (by simp)]; simp
theorem d2_0 : decode prog_18_method_1_code 0 = .ok (.aload_n 0, 1) := by decide +kernel
theorem d2_1 : decode prog_18_method_1_code 1 = .ok (.invokespecial 1, 3) := by decide +kernel
theorem d2_4 : decode prog_18_method_1_code 4 = .ok (.aload_n 0, 1) := by decide +kernel
theorem d2_5 : decode prog_18_method_1_code 5 = .ok (.bipush 16, 2) := by decide +kernel
theorem d2_7 : decode prog_18_method_1_code 7 = .ok (.newarray .int, 2) := by decide +kernel
theorem d2_9 : decode prog_18_method_1_code 9 = .ok (.putfield 9, 3) := by decide +kernel
theorem d2_12 : decode prog_18_method_1_code 12 = .ok (.return_, 1) := by decide +kernel
theorem own_pn2 : plainName "com/example/mangrove/mangrove/reasoner/IntStack" = true := by first | (simp [plainName, overriddenIn]; done) | decide +kernel
set_option maxRecDepth 65536 in
set_option maxHeartbeats 40000000 in
theorem met_2 (l : Launch) (Z : State) (a0 : Array Value) (hw : ∀ d ∈ tables_1, d.before a0 Z = true) (h0 : Heap) (n0 : Nat) (hn : n0 ≤ h0.size) (o0 : Addr) (ge0 : n0 ≤ o0) (E0 : Exa Z h0 o0 "com/example/mangrove/mangrove/reasoner/IntStack") (F0 : Fld Z h0 o0 "com/example/mangrove/mangrove/reasoner/IntStack" "size" "I" (.int (0 : Int32))) (F1 : Fld Z h0 o0 "com/example/mangrove/mangrove/reasoner/IntStack" "values" "[I" .null) : own_Met l Z n0 (⟨"com/example/mangrove/mangrove/reasoner/IntStack", "<init>", "()V"⟩ : MethodName) prog_18_method_1_code 1 none ({ frames := 1, cells := 1, slots := 16, locals := 12 } : Room) #[(.ref o0)] h0 (fun v h => v = none ∧ own_Is Z h n0 o0 []) := by
  refine own_enter (L := #[.val (.ref o0)]) (plainFor_of_name own_pn2) hw hn (fun m => by first | (simp [entryFrame, mkF, argsToLocals, Value.category]; done) | rfl) (fun K T hK M X => ?_)
  refine own_aloadN M X d2_0 rfl rfl rfl ?_
  refine own_initO M X (hw _ (List.mem_of_getElem? (i := 10) rfl)) (hw _ (List.mem_of_getElem? (i := 11) rfl)) (hw _ (List.mem_of_getElem? (i := 12) rfl)) rfl d2_1 rfl (by decide) 0 (Nat.le_of_eq rfl) (by decide) ?_
  intro T1 X2
  refine own_aloadN M X2 d2_4 rfl rfl rfl ?_
  refine own_bipush M X2 (v := (16 : Int32)) d2_5 rfl rfl ?_
  refine own_newarray M X2 (n := 16) 16 (hw _ (List.mem_of_getElem? (i := 13) rfl)) d2_7 rfl (by decide) (by decide) (by decide) (by decide) (by decide) ?_
  intro T3 h4 a5 ge6 gs7 X8 E9 V10
  have ne11 : o0 ≠ a5 := Nat.ne_of_lt (Nat.lt_of_lt_of_le E0.lt gs7)
  have E12 := E0.ext E9
  have F13 := F0.ext E9
  have F14 := F1.ext E9
  replace V10 : own_Va Z h4 a5 .int 16 (own_lsi [(0 : Int32), (0 : Int32), (0 : Int32), (0 : Int32), (0 : Int32), (0 : Int32), (0 : Int32), (0 : Int32), (0 : Int32), (0 : Int32), (0 : Int32), (0 : Int32), (0 : Int32), (0 : Int32), (0 : Int32), (0 : Int32)]) := V10.congr (own_zeroi _ _ rfl)
  refine own_putfield M X8 (hw _ (List.mem_of_getElem? (i := 14) rfl)) F14 E12 (Or.inl (hw _ (List.mem_of_getElem? (i := 15) rfl))) (hw _ (List.mem_of_getElem? (i := 5) rfl)) (ty := (.array .int)) (by decide) rfl rfl ge0 d2_9 rfl ?_
  intro T15 h16 X17 W18
  have F19 := Fld.same W18 F14
  have E20 := Exa.wr W18 E12
  have F21 := Fld.other W18 F13 (Or.inr (slot_ne (Or.inl (hw _ (List.mem_of_getElem? (i := 22) rfl))) (Or.inl (hw _ (List.mem_of_getElem? (i := 15) rfl))) (by decide) (t := .int) (t' := (.array .int)) (by decide) (by decide)))
  have V22 := V10.keep (Keep.of_wr W18) (ninS (Ne.symm ne11) nin0)
  exact own_retV M X17 d2_12 ⟨rfl, E20, F21, a5, _, ge6, ne11, F19, V22, fun j hj => absurd hj (Nat.not_lt_zero j)⟩
theorem d5_0 : decode prog_18_method_2_code 0 = .ok (.aload_n 0, 1) := by decide +kernel
theorem d5_1 : decode prog_18_method_2_code 1 = .ok (.getfield 13, 3) := by decide +kernel
theorem d5_4 : decode prog_18_method_2_code 4 = .ok (.aload_n 0, 1) := by decide +kernel
theorem d5_5 : decode prog_18_method_2_code 5 = .ok (.getfield 9, 3) := by decide +kernel
theorem d5_8 : decode prog_18_method_2_code 8 = .ok (.arraylength, 1) := by decide +kernel
theorem d5_9 : decode prog_18_method_2_code 9 = .ok (.if_icmp .ne 20, 3) := by decide +kernel
theorem d5_29 : decode prog_18_method_2_code 29 = .ok (.aload_n 0, 1) := by decide +kernel
theorem d5_30 : decode prog_18_method_2_code 30 = .ok (.getfield 9, 3) := by decide +kernel
theorem d5_33 : decode prog_18_method_2_code 33 = .ok (.aload_n 0, 1) := by decide +kernel
theorem d5_34 : decode prog_18_method_2_code 34 = .ok (.dup, 1) := by decide +kernel
theorem d5_35 : decode prog_18_method_2_code 35 = .ok (.getfield 13, 3) := by decide +kernel
theorem d5_38 : decode prog_18_method_2_code 38 = .ok (.dup_x1, 1) := by decide +kernel
theorem d5_39 : decode prog_18_method_2_code 39 = .ok (.iconst 1, 1) := by decide +kernel
theorem d5_40 : decode prog_18_method_2_code 40 = .ok (.iadd, 1) := by decide +kernel
theorem d5_41 : decode prog_18_method_2_code 41 = .ok (.putfield 13, 3) := by decide +kernel
theorem d5_44 : decode prog_18_method_2_code 44 = .ok (.iload_n 1, 1) := by decide +kernel
theorem d5_45 : decode prog_18_method_2_code 45 = .ok (.iastore, 1) := by decide +kernel
theorem d5_46 : decode prog_18_method_2_code 46 = .ok (.return_, 1) := by decide +kernel
theorem own_pn5 : plainName "com/example/mangrove/mangrove/reasoner/IntStack" = true := by first | (simp [plainName, overriddenIn]; done) | decide +kernel
set_option maxRecDepth 65536 in
set_option maxHeartbeats 40000000 in
theorem met_5 (l : Launch) (Z : State) (a0 : Array Value) (hw : ∀ d ∈ tables_1, d.before a0 Z = true) (h0 : Heap) (n0 : Nat) (hn : n0 ≤ h0.size) (o0 : Addr) (i1 : Int32) (vs : List Int32) (hB : own_Is Z h0 n0 o0 vs) (ge0 : n0 ≤ o0) (hl : vs.length < 16) : own_Met l Z n0 (⟨"com/example/mangrove/mangrove/reasoner/IntStack", "push", "(I)V"⟩ : MethodName) prog_18_method_2_code 2 none ({ frames := 0, cells := 0, slots := 0, locals := 0 } : Room) #[(.ref o0), (.int i1)] h0 (fun v h => v = none ∧ own_Is Z h n0 o0 (vs ++ [i1])) := by
  refine own_enter (L := #[.val (.ref o0), .val (.int i1)]) (plainFor_of_name own_pn5) hw hn (fun m => by first | (simp [entryFrame, mkF, argsToLocals, Value.category]; done) | rfl) (fun K T hK M X => ?_)
  obtain ⟨E0, F0, b, f, ge1, ne0, F1, V0, hf⟩ := hB
  refine own_aloadN M X d5_0 rfl rfl rfl ?_
  refine own_getfield M X (hw _ (List.mem_of_getElem? (i := 21) rfl)) F0 d5_1 rfl ?_
  intro T1 X2
  refine own_aloadN M X2 d5_4 rfl rfl rfl ?_
  refine own_getfield M X2 (hw _ (List.mem_of_getElem? (i := 14) rfl)) F1 d5_5 rfl ?_
  intro T3 X4
  refine own_arraylength M X4 (z := (16 : Int32)) V0 (by decide) d5_8 rfl ?_
  refine own_icmp_ne M X4 d5_9 (by decide) rfl rfl (fun q5 => ?_) (fun q5 => ?_)
  · skip
    refine own_aloadN M X4 d5_29 rfl rfl rfl ?_
    refine own_getfield M X4 (hw _ (List.mem_of_getElem? (i := 14) rfl)) F1 d5_30 rfl ?_
    intro T6 X7
    refine own_aloadN M X7 d5_33 rfl rfl rfl ?_
    refine own_dup M X7 d5_34 rfl rfl ?_
    refine own_getfield M X7 (hw _ (List.mem_of_getElem? (i := 21) rfl)) F0 d5_35 rfl ?_
    intro T8 X9
    refine own_dup_x1 M X9 d5_38 rfl rfl rfl ?_
    refine own_iconst M X9 (v := (1 : Int32)) d5_39 rfl rfl ?_
    refine own_iadd M X9 d5_40 rfl ?_
    refine own_putfield M X9 (hw _ (List.mem_of_getElem? (i := 21) rfl)) F0 E0 (Or.inl (hw _ (List.mem_of_getElem? (i := 22) rfl))) (hw _ (List.mem_of_getElem? (i := 5) rfl)) (ty := .int) (by decide) rfl rfl ge0 d5_41 rfl ?_
    intro T10 h11 X12 W13
    have F14 := Fld.same W13 F0
    have E15 := Exa.wr W13 E0
    have F16 := Fld.other W13 F1 (Or.inr (slot_ne (Or.inl (hw _ (List.mem_of_getElem? (i := 15) rfl))) (Or.inl (hw _ (List.mem_of_getElem? (i := 22) rfl))) (by decide) (t := (.array .int)) (t' := .int) (by decide) (by decide)))
    have V17 := V0.keep (Keep.of_wr W13) (ninS (Ne.symm ne0) nin0)
    refine own_iloadN M X12 d5_44 rfl rfl ?_
    refine own_iastore M X12 V17 ge1 (i := vs.length) (own_ofs (by omega)) hl d5_45 rfl ?_
    intro T18 h19 X20 K21 V22
    have E23 := E15.keep K21
    have F24 := F14.keep K21 (ninS ne0 nin0)
    have F25 := F16.keep K21 (ninS ne0 nin0)
    exact own_retV M X20 d5_46 ⟨rfl, E23, (by rw [show (vs ++ [i1]).length = vs.length + 1 from by simp, ← own_szA hl]; exact F24), b, own_updI f vs.length i1, ge1, ne0, F25, V22.congr (fun j _ => own_updIV), own_isP hf⟩
  · skip
    exfalso; rw [← Int32.toInt_inj, own_ofs (by omega), show (16 : Int32).toInt = 16 from by decide] at q5; omega
theorem d6_0 : decode prog_18_method_3_code 0 = .ok (.aload_n 0, 1) := by decide +kernel
theorem d6_1 : decode prog_18_method_3_code 1 = .ok (.getfield 9, 3) := by decide +kernel
theorem d6_4 : decode prog_18_method_3_code 4 = .ok (.aload_n 0, 1) := by decide +kernel
theorem d6_5 : decode prog_18_method_3_code 5 = .ok (.dup, 1) := by decide +kernel
theorem d6_6 : decode prog_18_method_3_code 6 = .ok (.getfield 13, 3) := by decide +kernel
theorem d6_9 : decode prog_18_method_3_code 9 = .ok (.iconst 1, 1) := by decide +kernel
theorem d6_10 : decode prog_18_method_3_code 10 = .ok (.isub, 1) := by decide +kernel
theorem d6_11 : decode prog_18_method_3_code 11 = .ok (.dup_x1, 1) := by decide +kernel
theorem d6_12 : decode prog_18_method_3_code 12 = .ok (.putfield 13, 3) := by decide +kernel
theorem d6_15 : decode prog_18_method_3_code 15 = .ok (.iaload, 1) := by decide +kernel
theorem d6_16 : decode prog_18_method_3_code 16 = .ok (.istore_n 1, 1) := by decide +kernel
theorem d6_17 : decode prog_18_method_3_code 17 = .ok (.aload_n 0, 1) := by decide +kernel
theorem d6_18 : decode prog_18_method_3_code 18 = .ok (.getfield 13, 3) := by decide +kernel
theorem d6_21 : decode prog_18_method_3_code 21 = .ok (.iconst 4, 1) := by decide +kernel
theorem d6_22 : decode prog_18_method_3_code 22 = .ok (.imul, 1) := by decide +kernel
theorem d6_23 : decode prog_18_method_3_code 23 = .ok (.aload_n 0, 1) := by decide +kernel
theorem d6_24 : decode prog_18_method_3_code 24 = .ok (.getfield 9, 3) := by decide +kernel
theorem d6_27 : decode prog_18_method_3_code 27 = .ok (.arraylength, 1) := by decide +kernel
theorem d6_28 : decode prog_18_method_3_code 28 = .ok (.if_icmp .ge 31, 3) := by decide +kernel
theorem d6_31 : decode prog_18_method_3_code 31 = .ok (.aload_n 0, 1) := by decide +kernel
theorem d6_32 : decode prog_18_method_3_code 32 = .ok (.getfield 9, 3) := by decide +kernel
theorem d6_35 : decode prog_18_method_3_code 35 = .ok (.arraylength, 1) := by decide +kernel
theorem d6_36 : decode prog_18_method_3_code 36 = .ok (.bipush 16, 2) := by decide +kernel
theorem d6_38 : decode prog_18_method_3_code 38 = .ok (.if_icmp .le 21, 3) := by decide +kernel
theorem d6_59 : decode prog_18_method_3_code 59 = .ok (.iload_n 1, 1) := by decide +kernel
theorem d6_60 : decode prog_18_method_3_code 60 = .ok (.ireturn, 1) := by decide +kernel
theorem own_pn6 : plainName "com/example/mangrove/mangrove/reasoner/IntStack" = true := by first | (simp [plainName, overriddenIn]; done) | decide +kernel
set_option maxRecDepth 65536 in
set_option maxHeartbeats 40000000 in
theorem met_6 (l : Launch) (Z : State) (a0 : Array Value) (hw : ∀ d ∈ tables_1, d.before a0 Z = true) (h0 : Heap) (n0 : Nat) (hn : n0 ≤ h0.size) (o0 : Addr) (us : List Int32) (y : Int32) (hB : own_Is Z h0 n0 o0 (us ++ [y])) (ge0 : n0 ≤ o0) (hl : us.length < 16) : own_Met l Z n0 (⟨"com/example/mangrove/mangrove/reasoner/IntStack", "pop", "()I"⟩ : MethodName) prog_18_method_3_code 2 (some .int) ({ frames := 0, cells := 0, slots := 0, locals := 0 } : Room) #[(.ref o0)] h0 (fun v h => v = some (.int y) ∧ own_Is Z h n0 o0 us) := by
  refine own_enter (L := #[.val (.ref o0), .unset]) (plainFor_of_name own_pn6) hw hn (fun m => by first | (simp [entryFrame, mkF, argsToLocals, Value.category]; done) | rfl) (fun K T hK M X => ?_)
  obtain ⟨E0, F0, b, f, ge1, ne0, F1, V0, hf⟩ := hB
  obtain ⟨hf, hy⟩ := own_isQ hf
  rw [show (us ++ [y]).length = us.length + 1 from by simp] at F0
  refine own_aloadN M X d6_0 rfl rfl rfl ?_
  refine own_getfield M X (hw _ (List.mem_of_getElem? (i := 14) rfl)) F1 d6_1 rfl ?_
  intro T1 X2
  refine own_aloadN M X2 d6_4 rfl rfl rfl ?_
  refine own_dup M X2 d6_5 rfl rfl ?_
  refine own_getfield M X2 (hw _ (List.mem_of_getElem? (i := 21) rfl)) F0 d6_6 rfl ?_
  intro T3 X4
  refine own_iconst M X4 (v := (1 : Int32)) d6_9 rfl rfl ?_
  refine own_isub M X4 d6_10 rfl ?_
  refine own_dup_x1 M X4 d6_11 rfl rfl rfl ?_
  refine own_putfield M X4 (hw _ (List.mem_of_getElem? (i := 21) rfl)) F0 E0 (Or.inl (hw _ (List.mem_of_getElem? (i := 22) rfl))) (hw _ (List.mem_of_getElem? (i := 5) rfl)) (ty := .int) (by decide) rfl rfl ge0 d6_12 rfl ?_
  intro T5 h6 X7 W8
  have F9 := Fld.same W8 F0
  have E10 := Exa.wr W8 E0
  have F11 := Fld.other W8 F1 (Or.inr (slot_ne (Or.inl (hw _ (List.mem_of_getElem? (i := 15) rfl))) (Or.inl (hw _ (List.mem_of_getElem? (i := 22) rfl))) (by decide) (t := (.array .int)) (t' := .int) (by decide) (by decide)))
  have V12 := V0.keep (Keep.of_wr W8) (ninS (Ne.symm ne0) nin0)
  refine own_iaload M X7 V12 (i := us.length) (by rw [own_szS hl]; exact own_ofs (by omega)) hl rfl d6_15 rfl ?_
  refine own_istoreN M X7 (L' := #[.val (.ref o0), .val (.int (f us.length))]) d6_16 rfl rfl ?_
  refine own_aloadN M X7 d6_17 rfl rfl rfl ?_
  refine own_getfield M X7 (hw _ (List.mem_of_getElem? (i := 21) rfl)) F9 d6_18 rfl ?_
  intro T13 X14
  refine own_iconst M X14 (v := (4 : Int32)) d6_21 rfl rfl ?_
  refine own_imul M X14 d6_22 rfl ?_
  refine own_aloadN M X14 d6_23 rfl rfl rfl ?_
  refine own_getfield M X14 (hw _ (List.mem_of_getElem? (i := 14) rfl)) F11 d6_24 rfl ?_
  intro T15 X16
  refine own_arraylength M X16 (z := (16 : Int32)) V12 (by decide) d6_27 rfl ?_
  refine own_icmp_ge M X16 d6_28 (by decide) rfl rfl (fun q17 => ?_) (fun q17 => ?_)
  · skip
    refine own_iloadN M X16 d6_59 rfl rfl ?_
    exact own_retI M X16 d6_60 ⟨by rw [hy], E10, (by rw [← own_szS hl]; exact F9), b, f, ge1, ne0, F11, V12, hf⟩
  · skip
    refine own_aloadN M X16 d6_31 rfl rfl rfl ?_
    refine own_getfield M X16 (hw _ (List.mem_of_getElem? (i := 14) rfl)) F11 d6_32 rfl ?_
    intro T18 X19
    refine own_arraylength M X19 (z := (16 : Int32)) V12 (by decide) d6_35 rfl ?_
    refine own_bipush M X19 (v := (16 : Int32)) d6_36 rfl rfl ?_
    refine own_icmp_le M X19 d6_38 (by decide) rfl rfl (fun q20 => ?_) (fun q20 => ?_)
    · skip
      refine own_iloadN M X19 d6_59 rfl rfl ?_
      exact own_retI M X19 d6_60 ⟨by rw [hy], E10, (by rw [← own_szS hl]; exact F9), b, f, ge1, ne0, F11, V12, hf⟩
    · exact absurd q20 (by decide)
theorem d4_0 : decode prog_18_method_8_code 0 = .ok (.iconst 0, 1) := by decide +kernel
theorem d4_1 : decode prog_18_method_8_code 1 = .ok (.istore_n 2, 1) := by decide +kernel
theorem d4_2 : decode prog_18_method_8_code 2 = .ok (.iload_n 2, 1) := by decide +kernel
theorem d4_3 : decode prog_18_method_8_code 3 = .ok (.aload_n 0, 1) := by decide +kernel
theorem d4_4 : decode prog_18_method_8_code 4 = .ok (.getfield 13, 3) := by decide +kernel
theorem d4_7 : decode prog_18_method_8_code 7 = .ok (.if_icmp .ge 21, 3) := by decide +kernel
theorem d4_10 : decode prog_18_method_8_code 10 = .ok (.aload_n 0, 1) := by decide +kernel
theorem d4_11 : decode prog_18_method_8_code 11 = .ok (.getfield 9, 3) := by decide +kernel
theorem d4_14 : decode prog_18_method_8_code 14 = .ok (.iload_n 2, 1) := by decide +kernel
theorem d4_15 : decode prog_18_method_8_code 15 = .ok (.iaload, 1) := by decide +kernel
theorem d4_16 : decode prog_18_method_8_code 16 = .ok (.iload_n 1, 1) := by decide +kernel
theorem d4_17 : decode prog_18_method_8_code 17 = .ok (.if_icmp .ne 5, 3) := by decide +kernel
theorem d4_20 : decode prog_18_method_8_code 20 = .ok (.iconst 1, 1) := by decide +kernel
theorem d4_21 : decode prog_18_method_8_code 21 = .ok (.ireturn, 1) := by decide +kernel
theorem d4_22 : decode prog_18_method_8_code 22 = .ok (.iinc 2 1, 3) := by decide +kernel
theorem d4_25 : decode prog_18_method_8_code 25 = .ok (.goto (-23), 3) := by decide +kernel
theorem d4_28 : decode prog_18_method_8_code 28 = .ok (.iconst 0, 1) := by decide +kernel
theorem d4_29 : decode prog_18_method_8_code 29 = .ok (.ireturn, 1) := by decide +kernel
theorem own_pn4 : plainName "com/example/mangrove/mangrove/reasoner/IntStack" = true := by first | (simp [plainName, overriddenIn]; done) | decide +kernel
set_option maxRecDepth 65536 in
set_option maxHeartbeats 40000000 in
theorem lp4_2 (l : Launch) (Z : State) (a0 : Array Value) (hw : ∀ d ∈ tables_1, d.before a0 Z = true) {n0 : Nat} {K : own_Cx} {P : Option Value → Heap → Prop} {h : Heap} {cl sl : Nat} (M : own_Mx Z a0 K prog_18_method_8_code "com/example/mangrove/mangrove/reasoner/IntStack" 3 (some .boolean) ({ frames := 0, cells := 0, slots := 0, locals := 0 } : Room)) (o0 : Addr) (i1 : Int32) (vs : List Int32) (b : Addr) (f : Nat → Int32) (hl : vs.length ≤ 16) (F0 : Fld Z h o0 "com/example/mangrove/mangrove/reasoner/IntStack" "size" "I" (.int (Int32.ofNat vs.length))) (F1 : Fld Z h o0 "com/example/mangrove/mangrove/reasoner/IntStack" "values" "[I" (.ref b)) (V0 : own_Va Z h b .int 16 (fun j => .int (f j))) :
    ∀ (k : Nat) (T : State) (X : own_Sx n0 K T h cl sl) (t : Nat) (i : Int32) (hi : i.toInt = t) (hk : t + k = vs.length) (hP : P (some (.int (own_ctk f i1 k t))) h), own_Fin n0 K P T 2 #[.val (.ref o0), .val (.int i1), .val (.int i)] [] := by
  intro k
  induction k with
  | zero =>
    intro T X t i hi hk hP
    refine own_iloadN M X d4_2 rfl rfl ?_
    refine own_aloadN M X d4_3 rfl rfl rfl ?_
    refine own_getfield M X (hw _ (List.mem_of_getElem? (i := 21) rfl)) F0 d4_4 rfl ?_
    intro T1 X2
    refine own_icmp_ge M X2 d4_7 (by decide) rfl rfl (fun q3 => ?_) (fun q3 => ?_)
    · skip
      refine own_iconst M X2 (v := (0 : Int32)) d4_28 rfl rfl ?_
      exact own_retN M X2 (z' := (0 : Int32)) (by simp) d4_29 rfl (by rw [own_ctk] at hP; exact hP)
    · skip
      exfalso; rw [Int32.lt_iff_toInt_lt, own_ofs hl] at q3; omega
  | succ k ih =>
    intro T X t i hi hk hP
    refine own_iloadN M X d4_2 rfl rfl ?_
    refine own_aloadN M X d4_3 rfl rfl rfl ?_
    refine own_getfield M X (hw _ (List.mem_of_getElem? (i := 21) rfl)) F0 d4_4 rfl ?_
    intro T1 X2
    refine own_icmp_ge M X2 d4_7 (by decide) rfl rfl (fun q3 => ?_) (fun q3 => ?_)
    · skip
      exfalso; rw [Int32.lt_iff_toInt_lt, own_ofs hl] at q3; omega
    · skip
      refine own_aloadN M X2 d4_10 rfl rfl rfl ?_
      refine own_getfield M X2 (hw _ (List.mem_of_getElem? (i := 14) rfl)) F1 d4_11 rfl ?_
      intro T4 X5
      refine own_iloadN M X5 d4_14 rfl rfl ?_
      refine own_iaload M X5 V0 (i := t) hi (by omega) rfl d4_15 rfl ?_
      refine own_iloadN M X5 d4_16 rfl rfl ?_
      refine own_icmp_ne M X5 d4_17 (by decide) rfl rfl (fun q6 => ?_) (fun q6 => ?_)
      · skip
        refine own_iinc M X5 (L' := #[.val (.ref o0), .val (.int i1), .val (.int (i + (1 : Int32)))]) (v := (i + (1 : Int32))) d4_22 rfl rfl rfl rfl ?_
        refine own_goto M X5 d4_25 (by decide) rfl ?_
        exact ih T4 X5 (t + 1) (i + (1 : Int32)) (own_inc hi (by omega)) (by omega) (by rw [own_ctk, if_neg q6] at hP; exact hP)
      · skip
        refine own_iconst M X5 (v := (1 : Int32)) d4_20 rfl rfl ?_
        exact own_retN M X5 (z' := (1 : Int32)) (by simp) d4_21 rfl (by rw [own_ctk, if_pos q6] at hP; exact hP)
set_option maxRecDepth 65536 in
set_option maxHeartbeats 40000000 in
theorem met_4 (l : Launch) (Z : State) (a0 : Array Value) (hw : ∀ d ∈ tables_1, d.before a0 Z = true) (h0 : Heap) (n0 : Nat) (hn : n0 ≤ h0.size) (o0 : Addr) (i1 : Int32) (vs : List Int32) (hB : own_Is Z h0 n0 o0 vs) (hl : vs.length ≤ 16) : own_Met l Z n0 (⟨"com/example/mangrove/mangrove/reasoner/IntStack", "contains", "(I)Z"⟩ : MethodName) prog_18_method_8_code 3 (some .boolean) ({ frames := 0, cells := 0, slots := 0, locals := 0 } : Room) #[(.ref o0), (.int i1)] h0 (fun v h => v = some (.int (own_ct vs i1)) ∧ h = h0) := by
  refine own_enter (L := #[.val (.ref o0), .val (.int i1), .unset]) (plainFor_of_name own_pn4) hw hn (fun m => by first | (simp [entryFrame, mkF, argsToLocals, Value.category]; done) | rfl) (fun K T hK M X => ?_)
  obtain ⟨E0, F0, b, f, ge1, ne0, F1, V0, hf⟩ := hB
  refine own_iconst M X (v := (0 : Int32)) d4_0 rfl rfl ?_
  refine own_istoreN M X (L' := #[.val (.ref o0), .val (.int i1), .val (.int (0 : Int32))]) d4_1 rfl rfl ?_
  exact lp4_2 l Z a0 hw M o0 i1 vs b f hl F0 F1 V0 vs.length T X 0 0 (by decide) (by omega) ⟨by rw [own_ctE f i1 vs 0 (fun j hj => by rw [Nat.zero_add]; exact hf j hj)], rfl⟩
def g0_25_l9 (u0 : Int32) (u1 : Int32) (u2 : Int32) (u3 : Int32) (u8 : Int32) : Int32 := (if u8 = (0 : Int32) then u0 else (if u8 = (1 : Int32) then u1 else (if u8 = (2 : Int32) then u2 else u3)))
set_option maxRecDepth 65536 in
set_option maxHeartbeats 40000000 in
theorem sg0_25 (l : Launch) (Z : State) (a0 : Array Value) (hw : ∀ d ∈ tables_1, d.before a0 Z = true) {n0 : Nat} {K : own_Cx} {P : Option Value → Heap → Prop} {T : State} {h : Heap} {cl sl : Nat} (M : own_Mx Z a0 K code "com/example/mangrove/mangrove/reasoner/IntStackContainsPinLaw" maxLocals ret room_1) (X : own_Sx n0 K T h cl sl) (u0 : Int32) (u1 : Int32) (u2 : Int32) (u3 : Int32) (u4 : Int32) (u5 : Int32) (u6 : Int32) (u7 : Int32) (u8 : Int32)
    (hr : ∀ T', own_Sx n0 K T' h cl sl → own_Fin n0 K P T' 63 #[.val (.int u0), .val (.int u1), .val (.int u2), .val (.int u3), .val (.int u4), .val (.int u5), .val (.int u6), .val (.int u7), .val (.int u8), .val (.int (g0_25_l9 u0 u1 u2 u3 u8)), .unset, .unset, .unset] []) : own_Fin n0 K P T 25 #[.val (.int u0), .val (.int u1), .val (.int u2), .val (.int u3), .val (.int u4), .val (.int u5), .val (.int u6), .val (.int u7), .val (.int u8), .unset, .unset, .unset, .unset] [] := by
  refine own_iload M X at_25 rfl rfl ?_
  refine own_if_ne M X at_27 (by decide) rfl rfl (fun q1 => ?_) (fun q1 => ?_)
  · skip
    refine own_iload M X at_36 rfl rfl ?_
    refine own_iconst M X (v := (1 : Int32)) at_38 rfl rfl ?_
    refine own_icmp_ne M X at_39 (by decide) rfl rfl (fun q2 => ?_) (fun q2 => ?_)
    · skip
      refine own_iload M X at_48 rfl rfl ?_
      refine own_iconst M X (v := (2 : Int32)) at_50 rfl rfl ?_
      refine own_icmp_ne M X at_51 (by decide) rfl rfl (fun q3 => ?_) (fun q3 => ?_)
      · skip
        refine own_iloadN M X at_60 rfl rfl ?_
        refine own_istore M X (L' := #[.val (.int u0), .val (.int u1), .val (.int u2), .val (.int u3), .val (.int u4), .val (.int u5), .val (.int u6), .val (.int u7), .val (.int u8), .val (.int u3), .unset, .unset, .unset]) at_61 rfl rfl ?_
        have hr1 := hr T X
        rw [g0_25_l9, if_neg q1, if_neg q2, if_neg q3] at hr1
        exact hr1
      · skip
        refine own_iloadN M X at_54 rfl rfl ?_
        refine own_istore M X (L' := #[.val (.int u0), .val (.int u1), .val (.int u2), .val (.int u3), .val (.int u4), .val (.int u5), .val (.int u6), .val (.int u7), .val (.int u8), .val (.int u2), .unset, .unset, .unset]) at_55 rfl rfl ?_
        refine own_goto M X at_57 (by decide) rfl ?_
        have hr1 := hr T X
        rw [g0_25_l9, if_neg q1, if_neg q2, if_pos q3] at hr1
        exact hr1
    · skip
      refine own_iloadN M X at_42 rfl rfl ?_
      refine own_istore M X (L' := #[.val (.int u0), .val (.int u1), .val (.int u2), .val (.int u3), .val (.int u4), .val (.int u5), .val (.int u6), .val (.int u7), .val (.int u8), .val (.int u1), .unset, .unset, .unset]) at_43 rfl rfl ?_
      refine own_goto M X at_45 (by decide) rfl ?_
      have hr1 := hr T X
      rw [g0_25_l9, if_neg q1, if_pos q2] at hr1
      exact hr1
  · skip
    refine own_iloadN M X at_30 rfl rfl ?_
    refine own_istore M X (L' := #[.val (.int u0), .val (.int u1), .val (.int u2), .val (.int u3), .val (.int u4), .val (.int u5), .val (.int u6), .val (.int u7), .val (.int u8), .val (.int u0), .unset, .unset, .unset]) at_31 rfl rfl ?_
    refine own_goto M X at_33 (by decide) rfl ?_
    have hr1 := hr T X
    rw [g0_25_l9, if_pos q1] at hr1
    exact hr1
def T0_63_0_0 (u9 : Int32) : Int32 := (if (own_ct [] u9) = (0 : Int32) then (1 : Int32) else (0 : Int32))
set_option maxRecDepth 65536 in
set_option maxHeartbeats 40000000 in
theorem tl0_63_0_0 (l : Launch) (Z : State) (a0 : Array Value) (hw : ∀ d ∈ tables_1, d.before a0 Z = true) {n0 : Nat} {K : own_Cx} {P : Option Value → Heap → Prop} {T : State} {h : Heap} (M : own_Mx Z a0 K code "com/example/mangrove/mangrove/reasoner/IntStackContainsPinLaw" maxLocals ret room_1) (X : own_Sx n0 K T h 0 0) (u0 u1 u2 u3 u4 u5 u6 u7 u8 u9 : Int32) (e6 : u6 = 0) (e7 : u7 = 0)
    (hP : ∀ hh, P (some (.int (T0_63_0_0 u9))) hh) : own_Fin n0 K P T 63 #[.val (.int u0), .val (.int u1), .val (.int u2), .val (.int u3), .val (.int u4), .val (.int u5), .val (.int u6), .val (.int u7), .val (.int u8), .val (.int u9), .unset, .unset, .unset] [] := by
  subst e6 e7
  refine own_new M X (hw _ (List.mem_of_getElem? (i := 4) rfl)) (hw _ (List.mem_of_getElem? (i := 5) rfl)) (hw _ (List.mem_of_getElem? (i := 6) rfl)) at_63 rfl (by decide) (by decide) ?_
  intro T1 h2 a3 ge4 gs5 X6 E7 A8 D9
  have F10 : Fld Z h2 a3 "com/example/mangrove/mangrove/reasoner/IntStack" "values" "[I" .null := D9 (Or.inl (hw _ (List.mem_of_getElem? (i := 15) rfl))) (ty := (.array .int)) (by decide)
  have F11 : Fld Z h2 a3 "com/example/mangrove/mangrove/reasoner/IntStack" "size" "I" (.int (0 : Int32)) := D9 (Or.inl (hw _ (List.mem_of_getElem? (i := 22) rfl))) (ty := .int) (by decide)
  refine own_dup M X6 at_66 rfl rfl ?_
  refine own_callN M X6 (yrm := ({ frames := 1, cells := 1, slots := 16, locals := 12 } : Room)) [] (hw _ (List.mem_of_getElem? (i := 7) rfl)) (hw _ (List.mem_of_getElem? (i := 8) rfl)) (hw _ (List.mem_of_getElem? (i := 6) rfl)) (hw _ (List.mem_of_getElem? (i := 9) rfl)) (by decide) rfl rfl (met_2 _ Z a0 hw h2 n0 X6.size a3 ge4 A8 F11 F10) rfl at_67 rfl own_pd1 rfl rfl 1 (Nat.le_of_eq rfl) (by decide) (by decide) (by decide) (by decide) ?_
  rintro T13 h14 v15 X16 ⟨rfl, B12⟩
  have E17 := B12.1
  replace X16 : own_Sx n0 K T13 h14 2 18 := X16
  show own_Fin n0 K _ T13 70 #[.val (.int u0), .val (.int u1), .val (.int u2), .val (.int u3), .val (.int u4), .val (.int u5), .val (.int (0 : Int32)), .val (.int (0 : Int32)), .val (.int u8), .val (.int u9), .unset, .unset, .unset] [(.ref a3)]
  refine own_astore M X16 (L' := #[.val (.int u0), .val (.int u1), .val (.int u2), .val (.int u3), .val (.int u4), .val (.int u5), .val (.int (0 : Int32)), .val (.int (0 : Int32)), .val (.int u8), .val (.int u9), .val (.ref a3), .unset, .unset]) at_70 rfl rfl rfl ?_
  refine own_iload M X16 at_72 rfl rfl ?_
  refine own_iconst M X16 (v := (1 : Int32)) at_74 rfl rfl ?_
  refine own_icmp_lt M X16 at_75 (by decide) rfl rfl (fun q18 => ?_) (fun q18 => ?_)
  · skip
    refine own_iload M X16 at_84 rfl rfl ?_
    refine own_iconst M X16 (v := (2 : Int32)) at_86 rfl rfl ?_
    refine own_icmp_lt M X16 at_87 (by decide) rfl rfl (fun q19 => ?_) (fun q19 => ?_)
    · skip
      refine own_iload M X16 at_96 rfl rfl ?_
      refine own_iconst M X16 (v := (3 : Int32)) at_98 rfl rfl ?_
      refine own_icmp_lt M X16 at_99 (by decide) rfl rfl (fun q20 => ?_) (fun q20 => ?_)
      · skip
        refine own_iload M X16 at_108 rfl rfl ?_
        refine own_iconst M X16 (v := (1 : Int32)) at_110 rfl rfl ?_
        refine own_icmp_lt M X16 at_111 (by decide) rfl rfl (fun q21 => ?_) (fun q21 => ?_)
        · skip
          refine own_iload M X16 at_120 rfl rfl ?_
          refine own_iconst M X16 (v := (2 : Int32)) at_122 rfl rfl ?_
          refine own_icmp_lt M X16 at_123 (by decide) rfl rfl (fun q22 => ?_) (fun q22 => ?_)
          · skip
            refine own_iload M X16 at_132 rfl rfl ?_
            refine own_iconst M X16 (v := (3 : Int32)) at_134 rfl rfl ?_
            refine own_icmp_lt M X16 at_135 (by decide) rfl rfl (fun q23 => ?_) (fun q23 => ?_)
            · skip
              refine own_iload M X16 at_144 rfl rfl ?_
              refine own_iload M X16 at_146 rfl rfl ?_
              refine own_isub M X16 at_148 rfl ?_
              show own_Fin n0 K _ T13 149 #[.val (.int u0), .val (.int u1), .val (.int u2), .val (.int u3), .val (.int u4), .val (.int u5), .val (.int (0 : Int32)), .val (.int (0 : Int32)), .val (.int u8), .val (.int u9), .val (.ref a3), .unset, .unset] [(.int (0 : Int32))]
              refine own_istore M X16 (L' := #[.val (.int u0), .val (.int u1), .val (.int u2), .val (.int u3), .val (.int u4), .val (.int u5), .val (.int (0 : Int32)), .val (.int (0 : Int32)), .val (.int u8), .val (.int u9), .val (.ref a3), .val (.int (0 : Int32)), .unset]) at_149 rfl rfl ?_
              refine own_iload M X16 at_151 rfl rfl ?_
              refine own_iconst M X16 (v := (1 : Int32)) at_153 rfl rfl ?_
              refine own_icmp_lt M X16 at_154 (by decide) rfl rfl (fun q24 => ?_) (fun q24 => ?_)
              · skip
                refine own_iload M X16 at_163 rfl rfl ?_
                refine own_iconst M X16 (v := (2 : Int32)) at_165 rfl rfl ?_
                refine own_icmp_lt M X16 at_166 (by decide) rfl rfl (fun q25 => ?_) (fun q25 => ?_)
                · skip
                  refine own_iload M X16 at_175 rfl rfl ?_
                  refine own_iconst M X16 (v := (3 : Int32)) at_177 rfl rfl ?_
                  refine own_icmp_lt M X16 at_178 (by decide) rfl rfl (fun q26 => ?_) (fun q26 => ?_)
                  · skip
                    refine own_iconst M X16 (v := (0 : Int32)) at_191 rfl rfl ?_
                    refine own_istore M X16 (L' := #[.val (.int u0), .val (.int u1), .val (.int u2), .val (.int u3), .val (.int u4), .val (.int u5), .val (.int (0 : Int32)), .val (.int (0 : Int32)), .val (.int u8), .val (.int u9), .val (.ref a3), .val (.int (0 : Int32)), .val (.int (0 : Int32))]) at_192 rfl rfl ?_
                    refine own_aload M X16 at_194 rfl rfl rfl ?_
                    refine own_iload M X16 at_196 rfl rfl ?_
                    refine own_callVP M X16 (yrm := ({ frames := 0, cells := 0, slots := 0, locals := 0 } : Room)) [(.int u9)] (hw _ (List.mem_of_getElem? (i := 16) rfl)) (hw _ (List.mem_of_getElem? (i := 18) rfl)) (hw _ (List.mem_of_getElem? (i := 17) rfl)) (hw _ (List.mem_of_getElem? (i := 19) rfl)) (hw _ (List.mem_of_getElem? (i := 6) rfl)) (hw _ (List.mem_of_getElem? (i := 20) rfl)) (by decide) E17 (met_4 _ Z a0 hw h14 n0 X16.size a3 u9 [] B12 (by simp)) rfl at_198 rfl own_pd2 rfl rfl 0 (Nat.le_of_eq rfl) (by decide) (by decide) rfl rfl ?_
                    intro T27 X28
                    refine own_iload M X28 at_201 rfl rfl ?_
                    refine own_icmp_ne M X28 at_203 (by decide) rfl rfl (fun q29 => ?_) (fun q29 => ?_)
                    · skip
                      refine own_iconst M X28 (v := (0 : Int32)) at_210 rfl rfl ?_
                      exact own_retN M X28 (z' := (0 : Int32)) (by simp) at_211 rfl (by have hP1 := hP h14; rw [T0_63_0_0, if_neg q29] at hP1; exact hP1)
                    · skip
                      refine own_iconst M X28 (v := (1 : Int32)) at_206 rfl rfl ?_
                      refine own_goto M X28 at_207 (by decide) rfl ?_
                      exact own_retN M X28 (z' := (1 : Int32)) (by simp) at_211 rfl (by have hP1 := hP h14; rw [T0_63_0_0, if_pos q29] at hP1; exact hP1)
                  · exact absurd (by decide) q26
                · exact absurd (by decide) q25
              · exact absurd (by decide) q24
            · exact absurd (by decide) q23
          · exact absurd (by decide) q22
        · exact absurd (by decide) q21
      · exact absurd (by decide) q20
    · exact absurd (by decide) q19
  · exact absurd (by decide) q18
def T0_63_1_0 (u0 : Int32) (u9 : Int32) : Int32 := (if u9 = u0 then (if (own_ct [u0] u9) = (1 : Int32) then (1 : Int32) else (0 : Int32)) else (if (own_ct [u0] u9) = (0 : Int32) then (1 : Int32) else (0 : Int32)))
set_option maxRecDepth 65536 in
set_option maxHeartbeats 40000000 in
theorem tl0_63_1_0 (l : Launch) (Z : State) (a0 : Array Value) (hw : ∀ d ∈ tables_1, d.before a0 Z = true) {n0 : Nat} {K : own_Cx} {P : Option Value → Heap → Prop} {T : State} {h : Heap} (M : own_Mx Z a0 K code "com/example/mangrove/mangrove/reasoner/IntStackContainsPinLaw" maxLocals ret room_1) (X : own_Sx n0 K T h 0 0) (u0 u1 u2 u3 u4 u5 u6 u7 u8 u9 : Int32) (e6 : u6 = 1) (e7 : u7 = 0)
    (hP : ∀ hh, P (some (.int (T0_63_1_0 u0 u9))) hh) : own_Fin n0 K P T 63 #[.val (.int u0), .val (.int u1), .val (.int u2), .val (.int u3), .val (.int u4), .val (.int u5), .val (.int u6), .val (.int u7), .val (.int u8), .val (.int u9), .unset, .unset, .unset] [] := by
  subst e6 e7
  refine own_new M X (hw _ (List.mem_of_getElem? (i := 4) rfl)) (hw _ (List.mem_of_getElem? (i := 5) rfl)) (hw _ (List.mem_of_getElem? (i := 6) rfl)) at_63 rfl (by decide) (by decide) ?_
  intro T1 h2 a3 ge4 gs5 X6 E7 A8 D9
  have F10 : Fld Z h2 a3 "com/example/mangrove/mangrove/reasoner/IntStack" "values" "[I" .null := D9 (Or.inl (hw _ (List.mem_of_getElem? (i := 15) rfl))) (ty := (.array .int)) (by decide)
  have F11 : Fld Z h2 a3 "com/example/mangrove/mangrove/reasoner/IntStack" "size" "I" (.int (0 : Int32)) := D9 (Or.inl (hw _ (List.mem_of_getElem? (i := 22) rfl))) (ty := .int) (by decide)
  refine own_dup M X6 at_66 rfl rfl ?_
  refine own_callN M X6 (yrm := ({ frames := 1, cells := 1, slots := 16, locals := 12 } : Room)) [] (hw _ (List.mem_of_getElem? (i := 7) rfl)) (hw _ (List.mem_of_getElem? (i := 8) rfl)) (hw _ (List.mem_of_getElem? (i := 6) rfl)) (hw _ (List.mem_of_getElem? (i := 9) rfl)) (by decide) rfl rfl (met_2 _ Z a0 hw h2 n0 X6.size a3 ge4 A8 F11 F10) rfl at_67 rfl own_pd1 rfl rfl 1 (Nat.le_of_eq rfl) (by decide) (by decide) (by decide) (by decide) ?_
  rintro T13 h14 v15 X16 ⟨rfl, B12⟩
  have E17 := B12.1
  replace X16 : own_Sx n0 K T13 h14 2 18 := X16
  show own_Fin n0 K _ T13 70 #[.val (.int u0), .val (.int u1), .val (.int u2), .val (.int u3), .val (.int u4), .val (.int u5), .val (.int (1 : Int32)), .val (.int (0 : Int32)), .val (.int u8), .val (.int u9), .unset, .unset, .unset] [(.ref a3)]
  refine own_astore M X16 (L' := #[.val (.int u0), .val (.int u1), .val (.int u2), .val (.int u3), .val (.int u4), .val (.int u5), .val (.int (1 : Int32)), .val (.int (0 : Int32)), .val (.int u8), .val (.int u9), .val (.ref a3), .unset, .unset]) at_70 rfl rfl rfl ?_
  refine own_iload M X16 at_72 rfl rfl ?_
  refine own_iconst M X16 (v := (1 : Int32)) at_74 rfl rfl ?_
  refine own_icmp_lt M X16 at_75 (by decide) rfl rfl (fun q18 => ?_) (fun q18 => ?_)
  · exact absurd q18 (by decide)
  · skip
    refine own_aload M X16 at_78 rfl rfl rfl ?_
    refine own_iloadN M X16 at_80 rfl rfl ?_
    refine own_callV M X16 (yrm := ({ frames := 0, cells := 0, slots := 0, locals := 0 } : Room)) [(.int u0)] (hw _ (List.mem_of_getElem? (i := 23) rfl)) (hw _ (List.mem_of_getElem? (i := 25) rfl)) (hw _ (List.mem_of_getElem? (i := 24) rfl)) (hw _ (List.mem_of_getElem? (i := 26) rfl)) (hw _ (List.mem_of_getElem? (i := 6) rfl)) (hw _ (List.mem_of_getElem? (i := 27) rfl)) (by decide) E17 (met_5 _ Z a0 hw h14 n0 X16.size a3 u0 [] B12 ge4 (by simp)) rfl at_81 rfl own_pd3 rfl rfl 0 (Nat.le_of_eq rfl) (by decide) (by decide) (by decide) (by decide) ?_
    rintro T20 h21 v22 X23 ⟨rfl, B19⟩
    replace B19 : own_Is Z h21 n0 a3 [u0] := B19
    have E24 := B19.1
    replace X23 : own_Sx n0 K T20 h21 2 18 := X23
    show own_Fin n0 K _ T20 84 #[.val (.int u0), .val (.int u1), .val (.int u2), .val (.int u3), .val (.int u4), .val (.int u5), .val (.int (1 : Int32)), .val (.int (0 : Int32)), .val (.int u8), .val (.int u9), .val (.ref a3), .unset, .unset] []
    refine own_iload M X23 at_84 rfl rfl ?_
    refine own_iconst M X23 (v := (2 : Int32)) at_86 rfl rfl ?_
    refine own_icmp_lt M X23 at_87 (by decide) rfl rfl (fun q25 => ?_) (fun q25 => ?_)
    · skip
      refine own_iload M X23 at_96 rfl rfl ?_
      refine own_iconst M X23 (v := (3 : Int32)) at_98 rfl rfl ?_
      refine own_icmp_lt M X23 at_99 (by decide) rfl rfl (fun q26 => ?_) (fun q26 => ?_)
      · skip
        refine own_iload M X23 at_108 rfl rfl ?_
        refine own_iconst M X23 (v := (1 : Int32)) at_110 rfl rfl ?_
        refine own_icmp_lt M X23 at_111 (by decide) rfl rfl (fun q27 => ?_) (fun q27 => ?_)
        · skip
          refine own_iload M X23 at_120 rfl rfl ?_
          refine own_iconst M X23 (v := (2 : Int32)) at_122 rfl rfl ?_
          refine own_icmp_lt M X23 at_123 (by decide) rfl rfl (fun q28 => ?_) (fun q28 => ?_)
          · skip
            refine own_iload M X23 at_132 rfl rfl ?_
            refine own_iconst M X23 (v := (3 : Int32)) at_134 rfl rfl ?_
            refine own_icmp_lt M X23 at_135 (by decide) rfl rfl (fun q29 => ?_) (fun q29 => ?_)
            · skip
              refine own_iload M X23 at_144 rfl rfl ?_
              refine own_iload M X23 at_146 rfl rfl ?_
              refine own_isub M X23 at_148 rfl ?_
              show own_Fin n0 K _ T20 149 #[.val (.int u0), .val (.int u1), .val (.int u2), .val (.int u3), .val (.int u4), .val (.int u5), .val (.int (1 : Int32)), .val (.int (0 : Int32)), .val (.int u8), .val (.int u9), .val (.ref a3), .unset, .unset] [(.int (1 : Int32))]
              refine own_istore M X23 (L' := #[.val (.int u0), .val (.int u1), .val (.int u2), .val (.int u3), .val (.int u4), .val (.int u5), .val (.int (1 : Int32)), .val (.int (0 : Int32)), .val (.int u8), .val (.int u9), .val (.ref a3), .val (.int (1 : Int32)), .unset]) at_149 rfl rfl ?_
              refine own_iload M X23 at_151 rfl rfl ?_
              refine own_iconst M X23 (v := (1 : Int32)) at_153 rfl rfl ?_
              refine own_icmp_lt M X23 at_154 (by decide) rfl rfl (fun q30 => ?_) (fun q30 => ?_)
              · exact absurd q30 (by decide)
              · skip
                refine own_iload M X23 at_157 rfl rfl ?_
                refine own_iloadN M X23 at_159 rfl rfl ?_
                refine own_icmp_eq M X23 at_160 (by decide) rfl rfl (fun q31 => ?_) (fun q31 => ?_)
                · skip
                  refine own_iconst M X23 (v := (1 : Int32)) at_187 rfl rfl ?_
                  refine own_goto M X23 at_188 (by decide) rfl ?_
                  refine own_istore M X23 (L' := #[.val (.int u0), .val (.int u1), .val (.int u2), .val (.int u3), .val (.int u4), .val (.int u5), .val (.int (1 : Int32)), .val (.int (0 : Int32)), .val (.int u8), .val (.int u9), .val (.ref a3), .val (.int (1 : Int32)), .val (.int (1 : Int32))]) at_192 rfl rfl ?_
                  refine own_aload M X23 at_194 rfl rfl rfl ?_
                  refine own_iload M X23 at_196 rfl rfl ?_
                  refine own_callVP M X23 (yrm := ({ frames := 0, cells := 0, slots := 0, locals := 0 } : Room)) [(.int u9)] (hw _ (List.mem_of_getElem? (i := 16) rfl)) (hw _ (List.mem_of_getElem? (i := 18) rfl)) (hw _ (List.mem_of_getElem? (i := 17) rfl)) (hw _ (List.mem_of_getElem? (i := 19) rfl)) (hw _ (List.mem_of_getElem? (i := 6) rfl)) (hw _ (List.mem_of_getElem? (i := 20) rfl)) (by decide) E24 (met_4 _ Z a0 hw h21 n0 X23.size a3 u9 [u0] B19 (by simp)) rfl at_198 rfl own_pd2 rfl rfl 0 (Nat.le_of_eq rfl) (by decide) (by decide) rfl rfl ?_
                  intro T32 X33
                  refine own_iload M X33 at_201 rfl rfl ?_
                  refine own_icmp_ne M X33 at_203 (by decide) rfl rfl (fun q34 => ?_) (fun q34 => ?_)
                  · skip
                    refine own_iconst M X33 (v := (0 : Int32)) at_210 rfl rfl ?_
                    exact own_retN M X33 (z' := (0 : Int32)) (by simp) at_211 rfl (by have hP1 := hP h21; rw [T0_63_1_0, if_pos q31, if_neg q34] at hP1; exact hP1)
                  · skip
                    refine own_iconst M X33 (v := (1 : Int32)) at_206 rfl rfl ?_
                    refine own_goto M X33 at_207 (by decide) rfl ?_
                    exact own_retN M X33 (z' := (1 : Int32)) (by simp) at_211 rfl (by have hP1 := hP h21; rw [T0_63_1_0, if_pos q31, if_pos q34] at hP1; exact hP1)
                · skip
                  refine own_iload M X23 at_163 rfl rfl ?_
                  refine own_iconst M X23 (v := (2 : Int32)) at_165 rfl rfl ?_
                  refine own_icmp_lt M X23 at_166 (by decide) rfl rfl (fun q35 => ?_) (fun q35 => ?_)
                  · skip
                    refine own_iload M X23 at_175 rfl rfl ?_
                    refine own_iconst M X23 (v := (3 : Int32)) at_177 rfl rfl ?_
                    refine own_icmp_lt M X23 at_178 (by decide) rfl rfl (fun q36 => ?_) (fun q36 => ?_)
                    · skip
                      refine own_iconst M X23 (v := (0 : Int32)) at_191 rfl rfl ?_
                      refine own_istore M X23 (L' := #[.val (.int u0), .val (.int u1), .val (.int u2), .val (.int u3), .val (.int u4), .val (.int u5), .val (.int (1 : Int32)), .val (.int (0 : Int32)), .val (.int u8), .val (.int u9), .val (.ref a3), .val (.int (1 : Int32)), .val (.int (0 : Int32))]) at_192 rfl rfl ?_
                      refine own_aload M X23 at_194 rfl rfl rfl ?_
                      refine own_iload M X23 at_196 rfl rfl ?_
                      refine own_callVP M X23 (yrm := ({ frames := 0, cells := 0, slots := 0, locals := 0 } : Room)) [(.int u9)] (hw _ (List.mem_of_getElem? (i := 16) rfl)) (hw _ (List.mem_of_getElem? (i := 18) rfl)) (hw _ (List.mem_of_getElem? (i := 17) rfl)) (hw _ (List.mem_of_getElem? (i := 19) rfl)) (hw _ (List.mem_of_getElem? (i := 6) rfl)) (hw _ (List.mem_of_getElem? (i := 20) rfl)) (by decide) E24 (met_4 _ Z a0 hw h21 n0 X23.size a3 u9 [u0] B19 (by simp)) rfl at_198 rfl own_pd2 rfl rfl 0 (Nat.le_of_eq rfl) (by decide) (by decide) rfl rfl ?_
                      intro T37 X38
                      refine own_iload M X38 at_201 rfl rfl ?_
                      refine own_icmp_ne M X38 at_203 (by decide) rfl rfl (fun q39 => ?_) (fun q39 => ?_)
                      · skip
                        refine own_iconst M X38 (v := (0 : Int32)) at_210 rfl rfl ?_
                        exact own_retN M X38 (z' := (0 : Int32)) (by simp) at_211 rfl (by have hP1 := hP h21; rw [T0_63_1_0, if_neg q31, if_neg q39] at hP1; exact hP1)
                      · skip
                        refine own_iconst M X38 (v := (1 : Int32)) at_206 rfl rfl ?_
                        refine own_goto M X38 at_207 (by decide) rfl ?_
                        exact own_retN M X38 (z' := (1 : Int32)) (by simp) at_211 rfl (by have hP1 := hP h21; rw [T0_63_1_0, if_neg q31, if_pos q39] at hP1; exact hP1)
                    · exact absurd (by decide) q36
                  · exact absurd (by decide) q35
            · exact absurd (by decide) q29
          · exact absurd (by decide) q28
        · exact absurd (by decide) q27
      · exact absurd (by decide) q26
    · exact absurd (by decide) q25
def T0_63_1_1 (u9 : Int32) : Int32 := (if (own_ct [] u9) = (0 : Int32) then (1 : Int32) else (0 : Int32))
set_option maxRecDepth 65536 in
set_option maxHeartbeats 40000000 in
theorem tl0_63_1_1 (l : Launch) (Z : State) (a0 : Array Value) (hw : ∀ d ∈ tables_1, d.before a0 Z = true) {n0 : Nat} {K : own_Cx} {P : Option Value → Heap → Prop} {T : State} {h : Heap} (M : own_Mx Z a0 K code "com/example/mangrove/mangrove/reasoner/IntStackContainsPinLaw" maxLocals ret room_1) (X : own_Sx n0 K T h 0 0) (u0 u1 u2 u3 u4 u5 u6 u7 u8 u9 : Int32) (e6 : u6 = 1) (e7 : u7 = 1)
    (hP : ∀ hh, P (some (.int (T0_63_1_1 u9))) hh) : own_Fin n0 K P T 63 #[.val (.int u0), .val (.int u1), .val (.int u2), .val (.int u3), .val (.int u4), .val (.int u5), .val (.int u6), .val (.int u7), .val (.int u8), .val (.int u9), .unset, .unset, .unset] [] := by
  subst e6 e7
  refine own_new M X (hw _ (List.mem_of_getElem? (i := 4) rfl)) (hw _ (List.mem_of_getElem? (i := 5) rfl)) (hw _ (List.mem_of_getElem? (i := 6) rfl)) at_63 rfl (by decide) (by decide) ?_
  intro T1 h2 a3 ge4 gs5 X6 E7 A8 D9
  have F10 : Fld Z h2 a3 "com/example/mangrove/mangrove/reasoner/IntStack" "values" "[I" .null := D9 (Or.inl (hw _ (List.mem_of_getElem? (i := 15) rfl))) (ty := (.array .int)) (by decide)
  have F11 : Fld Z h2 a3 "com/example/mangrove/mangrove/reasoner/IntStack" "size" "I" (.int (0 : Int32)) := D9 (Or.inl (hw _ (List.mem_of_getElem? (i := 22) rfl))) (ty := .int) (by decide)
  refine own_dup M X6 at_66 rfl rfl ?_
  refine own_callN M X6 (yrm := ({ frames := 1, cells := 1, slots := 16, locals := 12 } : Room)) [] (hw _ (List.mem_of_getElem? (i := 7) rfl)) (hw _ (List.mem_of_getElem? (i := 8) rfl)) (hw _ (List.mem_of_getElem? (i := 6) rfl)) (hw _ (List.mem_of_getElem? (i := 9) rfl)) (by decide) rfl rfl (met_2 _ Z a0 hw h2 n0 X6.size a3 ge4 A8 F11 F10) rfl at_67 rfl own_pd1 rfl rfl 1 (Nat.le_of_eq rfl) (by decide) (by decide) (by decide) (by decide) ?_
  rintro T13 h14 v15 X16 ⟨rfl, B12⟩
  have E17 := B12.1
  replace X16 : own_Sx n0 K T13 h14 2 18 := X16
  show own_Fin n0 K _ T13 70 #[.val (.int u0), .val (.int u1), .val (.int u2), .val (.int u3), .val (.int u4), .val (.int u5), .val (.int (1 : Int32)), .val (.int (1 : Int32)), .val (.int u8), .val (.int u9), .unset, .unset, .unset] [(.ref a3)]
  refine own_astore M X16 (L' := #[.val (.int u0), .val (.int u1), .val (.int u2), .val (.int u3), .val (.int u4), .val (.int u5), .val (.int (1 : Int32)), .val (.int (1 : Int32)), .val (.int u8), .val (.int u9), .val (.ref a3), .unset, .unset]) at_70 rfl rfl rfl ?_
  refine own_iload M X16 at_72 rfl rfl ?_
  refine own_iconst M X16 (v := (1 : Int32)) at_74 rfl rfl ?_
  refine own_icmp_lt M X16 at_75 (by decide) rfl rfl (fun q18 => ?_) (fun q18 => ?_)
  · exact absurd q18 (by decide)
  · skip
    refine own_aload M X16 at_78 rfl rfl rfl ?_
    refine own_iloadN M X16 at_80 rfl rfl ?_
    refine own_callV M X16 (yrm := ({ frames := 0, cells := 0, slots := 0, locals := 0 } : Room)) [(.int u0)] (hw _ (List.mem_of_getElem? (i := 23) rfl)) (hw _ (List.mem_of_getElem? (i := 25) rfl)) (hw _ (List.mem_of_getElem? (i := 24) rfl)) (hw _ (List.mem_of_getElem? (i := 26) rfl)) (hw _ (List.mem_of_getElem? (i := 6) rfl)) (hw _ (List.mem_of_getElem? (i := 27) rfl)) (by decide) E17 (met_5 _ Z a0 hw h14 n0 X16.size a3 u0 [] B12 ge4 (by simp)) rfl at_81 rfl own_pd3 rfl rfl 0 (Nat.le_of_eq rfl) (by decide) (by decide) (by decide) (by decide) ?_
    rintro T20 h21 v22 X23 ⟨rfl, B19⟩
    replace B19 : own_Is Z h21 n0 a3 [u0] := B19
    have E24 := B19.1
    replace X23 : own_Sx n0 K T20 h21 2 18 := X23
    show own_Fin n0 K _ T20 84 #[.val (.int u0), .val (.int u1), .val (.int u2), .val (.int u3), .val (.int u4), .val (.int u5), .val (.int (1 : Int32)), .val (.int (1 : Int32)), .val (.int u8), .val (.int u9), .val (.ref a3), .unset, .unset] []
    refine own_iload M X23 at_84 rfl rfl ?_
    refine own_iconst M X23 (v := (2 : Int32)) at_86 rfl rfl ?_
    refine own_icmp_lt M X23 at_87 (by decide) rfl rfl (fun q25 => ?_) (fun q25 => ?_)
    · skip
      refine own_iload M X23 at_96 rfl rfl ?_
      refine own_iconst M X23 (v := (3 : Int32)) at_98 rfl rfl ?_
      refine own_icmp_lt M X23 at_99 (by decide) rfl rfl (fun q26 => ?_) (fun q26 => ?_)
      · skip
        refine own_iload M X23 at_108 rfl rfl ?_
        refine own_iconst M X23 (v := (1 : Int32)) at_110 rfl rfl ?_
        refine own_icmp_lt M X23 at_111 (by decide) rfl rfl (fun q27 => ?_) (fun q27 => ?_)
        · exact absurd q27 (by decide)
        · skip
          refine own_aload M X23 at_114 rfl rfl rfl ?_
          refine own_callV M X23 (yrm := ({ frames := 0, cells := 0, slots := 0, locals := 0 } : Room)) [] (hw _ (List.mem_of_getElem? (i := 28) rfl)) (hw _ (List.mem_of_getElem? (i := 30) rfl)) (hw _ (List.mem_of_getElem? (i := 29) rfl)) (hw _ (List.mem_of_getElem? (i := 31) rfl)) (hw _ (List.mem_of_getElem? (i := 6) rfl)) (hw _ (List.mem_of_getElem? (i := 32) rfl)) (by decide) E24 (met_6 _ Z a0 hw h21 n0 X23.size a3 [] u0 B19 ge4 (by simp)) rfl at_116 rfl own_pd4 rfl rfl 0 (Nat.le_of_eq rfl) (by decide) (by decide) (by decide) (by decide) ?_
          rintro T29 h30 v31 X32 ⟨rfl, B28⟩
          have E33 := B28.1
          replace X32 : own_Sx n0 K T29 h30 2 18 := X32
          show own_Fin n0 K _ T29 119 #[.val (.int u0), .val (.int u1), .val (.int u2), .val (.int u3), .val (.int u4), .val (.int u5), .val (.int (1 : Int32)), .val (.int (1 : Int32)), .val (.int u8), .val (.int u9), .val (.ref a3), .unset, .unset] [(.int u0)]
          refine own_pop M X32 at_119 rfl rfl ?_
          refine own_iload M X32 at_120 rfl rfl ?_
          refine own_iconst M X32 (v := (2 : Int32)) at_122 rfl rfl ?_
          refine own_icmp_lt M X32 at_123 (by decide) rfl rfl (fun q34 => ?_) (fun q34 => ?_)
          · skip
            refine own_iload M X32 at_132 rfl rfl ?_
            refine own_iconst M X32 (v := (3 : Int32)) at_134 rfl rfl ?_
            refine own_icmp_lt M X32 at_135 (by decide) rfl rfl (fun q35 => ?_) (fun q35 => ?_)
            · skip
              refine own_iload M X32 at_144 rfl rfl ?_
              refine own_iload M X32 at_146 rfl rfl ?_
              refine own_isub M X32 at_148 rfl ?_
              show own_Fin n0 K _ T29 149 #[.val (.int u0), .val (.int u1), .val (.int u2), .val (.int u3), .val (.int u4), .val (.int u5), .val (.int (1 : Int32)), .val (.int (1 : Int32)), .val (.int u8), .val (.int u9), .val (.ref a3), .unset, .unset] [(.int (0 : Int32))]
              refine own_istore M X32 (L' := #[.val (.int u0), .val (.int u1), .val (.int u2), .val (.int u3), .val (.int u4), .val (.int u5), .val (.int (1 : Int32)), .val (.int (1 : Int32)), .val (.int u8), .val (.int u9), .val (.ref a3), .val (.int (0 : Int32)), .unset]) at_149 rfl rfl ?_
              refine own_iload M X32 at_151 rfl rfl ?_
              refine own_iconst M X32 (v := (1 : Int32)) at_153 rfl rfl ?_
              refine own_icmp_lt M X32 at_154 (by decide) rfl rfl (fun q36 => ?_) (fun q36 => ?_)
              · skip
                refine own_iload M X32 at_163 rfl rfl ?_
                refine own_iconst M X32 (v := (2 : Int32)) at_165 rfl rfl ?_
                refine own_icmp_lt M X32 at_166 (by decide) rfl rfl (fun q37 => ?_) (fun q37 => ?_)
                · skip
                  refine own_iload M X32 at_175 rfl rfl ?_
                  refine own_iconst M X32 (v := (3 : Int32)) at_177 rfl rfl ?_
                  refine own_icmp_lt M X32 at_178 (by decide) rfl rfl (fun q38 => ?_) (fun q38 => ?_)
                  · skip
                    refine own_iconst M X32 (v := (0 : Int32)) at_191 rfl rfl ?_
                    refine own_istore M X32 (L' := #[.val (.int u0), .val (.int u1), .val (.int u2), .val (.int u3), .val (.int u4), .val (.int u5), .val (.int (1 : Int32)), .val (.int (1 : Int32)), .val (.int u8), .val (.int u9), .val (.ref a3), .val (.int (0 : Int32)), .val (.int (0 : Int32))]) at_192 rfl rfl ?_
                    refine own_aload M X32 at_194 rfl rfl rfl ?_
                    refine own_iload M X32 at_196 rfl rfl ?_
                    refine own_callVP M X32 (yrm := ({ frames := 0, cells := 0, slots := 0, locals := 0 } : Room)) [(.int u9)] (hw _ (List.mem_of_getElem? (i := 16) rfl)) (hw _ (List.mem_of_getElem? (i := 18) rfl)) (hw _ (List.mem_of_getElem? (i := 17) rfl)) (hw _ (List.mem_of_getElem? (i := 19) rfl)) (hw _ (List.mem_of_getElem? (i := 6) rfl)) (hw _ (List.mem_of_getElem? (i := 20) rfl)) (by decide) E33 (met_4 _ Z a0 hw h30 n0 X32.size a3 u9 [] B28 (by simp)) rfl at_198 rfl own_pd2 rfl rfl 0 (Nat.le_of_eq rfl) (by decide) (by decide) rfl rfl ?_
                    intro T39 X40
                    refine own_iload M X40 at_201 rfl rfl ?_
                    refine own_icmp_ne M X40 at_203 (by decide) rfl rfl (fun q41 => ?_) (fun q41 => ?_)
                    · skip
                      refine own_iconst M X40 (v := (0 : Int32)) at_210 rfl rfl ?_
                      exact own_retN M X40 (z' := (0 : Int32)) (by simp) at_211 rfl (by have hP1 := hP h30; rw [T0_63_1_1, if_neg q41] at hP1; exact hP1)
                    · skip
                      refine own_iconst M X40 (v := (1 : Int32)) at_206 rfl rfl ?_
                      refine own_goto M X40 at_207 (by decide) rfl ?_
                      exact own_retN M X40 (z' := (1 : Int32)) (by simp) at_211 rfl (by have hP1 := hP h30; rw [T0_63_1_1, if_pos q41] at hP1; exact hP1)
                  · exact absurd (by decide) q38
                · exact absurd (by decide) q37
              · exact absurd (by decide) q36
            · exact absurd (by decide) q35
          · exact absurd (by decide) q34
      · exact absurd (by decide) q26
    · exact absurd (by decide) q25
def T0_63_2_0 (u0 : Int32) (u1 : Int32) (u9 : Int32) : Int32 := (if u9 = u0 then (if (own_ct [u0, u1] u9) = (1 : Int32) then (1 : Int32) else (0 : Int32)) else (if u9 = u1 then (if (own_ct [u0, u1] u9) = (1 : Int32) then (1 : Int32) else (0 : Int32)) else (if (own_ct [u0, u1] u9) = (0 : Int32) then (1 : Int32) else (0 : Int32))))
set_option maxRecDepth 65536 in
set_option maxHeartbeats 40000000 in
theorem tl0_63_2_0 (l : Launch) (Z : State) (a0 : Array Value) (hw : ∀ d ∈ tables_1, d.before a0 Z = true) {n0 : Nat} {K : own_Cx} {P : Option Value → Heap → Prop} {T : State} {h : Heap} (M : own_Mx Z a0 K code "com/example/mangrove/mangrove/reasoner/IntStackContainsPinLaw" maxLocals ret room_1) (X : own_Sx n0 K T h 0 0) (u0 u1 u2 u3 u4 u5 u6 u7 u8 u9 : Int32) (e6 : u6 = 2) (e7 : u7 = 0)
    (hP : ∀ hh, P (some (.int (T0_63_2_0 u0 u1 u9))) hh) : own_Fin n0 K P T 63 #[.val (.int u0), .val (.int u1), .val (.int u2), .val (.int u3), .val (.int u4), .val (.int u5), .val (.int u6), .val (.int u7), .val (.int u8), .val (.int u9), .unset, .unset, .unset] [] := by
  subst e6 e7
  refine own_new M X (hw _ (List.mem_of_getElem? (i := 4) rfl)) (hw _ (List.mem_of_getElem? (i := 5) rfl)) (hw _ (List.mem_of_getElem? (i := 6) rfl)) at_63 rfl (by decide) (by decide) ?_
  intro T1 h2 a3 ge4 gs5 X6 E7 A8 D9
  have F10 : Fld Z h2 a3 "com/example/mangrove/mangrove/reasoner/IntStack" "values" "[I" .null := D9 (Or.inl (hw _ (List.mem_of_getElem? (i := 15) rfl))) (ty := (.array .int)) (by decide)
  have F11 : Fld Z h2 a3 "com/example/mangrove/mangrove/reasoner/IntStack" "size" "I" (.int (0 : Int32)) := D9 (Or.inl (hw _ (List.mem_of_getElem? (i := 22) rfl))) (ty := .int) (by decide)
  refine own_dup M X6 at_66 rfl rfl ?_
  refine own_callN M X6 (yrm := ({ frames := 1, cells := 1, slots := 16, locals := 12 } : Room)) [] (hw _ (List.mem_of_getElem? (i := 7) rfl)) (hw _ (List.mem_of_getElem? (i := 8) rfl)) (hw _ (List.mem_of_getElem? (i := 6) rfl)) (hw _ (List.mem_of_getElem? (i := 9) rfl)) (by decide) rfl rfl (met_2 _ Z a0 hw h2 n0 X6.size a3 ge4 A8 F11 F10) rfl at_67 rfl own_pd1 rfl rfl 1 (Nat.le_of_eq rfl) (by decide) (by decide) (by decide) (by decide) ?_
  rintro T13 h14 v15 X16 ⟨rfl, B12⟩
  have E17 := B12.1
  replace X16 : own_Sx n0 K T13 h14 2 18 := X16
  show own_Fin n0 K _ T13 70 #[.val (.int u0), .val (.int u1), .val (.int u2), .val (.int u3), .val (.int u4), .val (.int u5), .val (.int (2 : Int32)), .val (.int (0 : Int32)), .val (.int u8), .val (.int u9), .unset, .unset, .unset] [(.ref a3)]
  refine own_astore M X16 (L' := #[.val (.int u0), .val (.int u1), .val (.int u2), .val (.int u3), .val (.int u4), .val (.int u5), .val (.int (2 : Int32)), .val (.int (0 : Int32)), .val (.int u8), .val (.int u9), .val (.ref a3), .unset, .unset]) at_70 rfl rfl rfl ?_
  refine own_iload M X16 at_72 rfl rfl ?_
  refine own_iconst M X16 (v := (1 : Int32)) at_74 rfl rfl ?_
  refine own_icmp_lt M X16 at_75 (by decide) rfl rfl (fun q18 => ?_) (fun q18 => ?_)
  · exact absurd q18 (by decide)
  · skip
    refine own_aload M X16 at_78 rfl rfl rfl ?_
    refine own_iloadN M X16 at_80 rfl rfl ?_
    refine own_callV M X16 (yrm := ({ frames := 0, cells := 0, slots := 0, locals := 0 } : Room)) [(.int u0)] (hw _ (List.mem_of_getElem? (i := 23) rfl)) (hw _ (List.mem_of_getElem? (i := 25) rfl)) (hw _ (List.mem_of_getElem? (i := 24) rfl)) (hw _ (List.mem_of_getElem? (i := 26) rfl)) (hw _ (List.mem_of_getElem? (i := 6) rfl)) (hw _ (List.mem_of_getElem? (i := 27) rfl)) (by decide) E17 (met_5 _ Z a0 hw h14 n0 X16.size a3 u0 [] B12 ge4 (by simp)) rfl at_81 rfl own_pd3 rfl rfl 0 (Nat.le_of_eq rfl) (by decide) (by decide) (by decide) (by decide) ?_
    rintro T20 h21 v22 X23 ⟨rfl, B19⟩
    replace B19 : own_Is Z h21 n0 a3 [u0] := B19
    have E24 := B19.1
    replace X23 : own_Sx n0 K T20 h21 2 18 := X23
    show own_Fin n0 K _ T20 84 #[.val (.int u0), .val (.int u1), .val (.int u2), .val (.int u3), .val (.int u4), .val (.int u5), .val (.int (2 : Int32)), .val (.int (0 : Int32)), .val (.int u8), .val (.int u9), .val (.ref a3), .unset, .unset] []
    refine own_iload M X23 at_84 rfl rfl ?_
    refine own_iconst M X23 (v := (2 : Int32)) at_86 rfl rfl ?_
    refine own_icmp_lt M X23 at_87 (by decide) rfl rfl (fun q25 => ?_) (fun q25 => ?_)
    · exact absurd q25 (by decide)
    · skip
      refine own_aload M X23 at_90 rfl rfl rfl ?_
      refine own_iloadN M X23 at_92 rfl rfl ?_
      refine own_callV M X23 (yrm := ({ frames := 0, cells := 0, slots := 0, locals := 0 } : Room)) [(.int u1)] (hw _ (List.mem_of_getElem? (i := 23) rfl)) (hw _ (List.mem_of_getElem? (i := 25) rfl)) (hw _ (List.mem_of_getElem? (i := 24) rfl)) (hw _ (List.mem_of_getElem? (i := 26) rfl)) (hw _ (List.mem_of_getElem? (i := 6) rfl)) (hw _ (List.mem_of_getElem? (i := 27) rfl)) (by decide) E24 (met_5 _ Z a0 hw h21 n0 X23.size a3 u1 [u0] B19 ge4 (by simp)) rfl at_93 rfl own_pd3 rfl rfl 0 (Nat.le_of_eq rfl) (by decide) (by decide) (by decide) (by decide) ?_
      rintro T27 h28 v29 X30 ⟨rfl, B26⟩
      replace B26 : own_Is Z h28 n0 a3 [u0, u1] := B26
      have E31 := B26.1
      replace X30 : own_Sx n0 K T27 h28 2 18 := X30
      show own_Fin n0 K _ T27 96 #[.val (.int u0), .val (.int u1), .val (.int u2), .val (.int u3), .val (.int u4), .val (.int u5), .val (.int (2 : Int32)), .val (.int (0 : Int32)), .val (.int u8), .val (.int u9), .val (.ref a3), .unset, .unset] []
      refine own_iload M X30 at_96 rfl rfl ?_
      refine own_iconst M X30 (v := (3 : Int32)) at_98 rfl rfl ?_
      refine own_icmp_lt M X30 at_99 (by decide) rfl rfl (fun q32 => ?_) (fun q32 => ?_)
      · skip
        refine own_iload M X30 at_108 rfl rfl ?_
        refine own_iconst M X30 (v := (1 : Int32)) at_110 rfl rfl ?_
        refine own_icmp_lt M X30 at_111 (by decide) rfl rfl (fun q33 => ?_) (fun q33 => ?_)
        · skip
          refine own_iload M X30 at_120 rfl rfl ?_
          refine own_iconst M X30 (v := (2 : Int32)) at_122 rfl rfl ?_
          refine own_icmp_lt M X30 at_123 (by decide) rfl rfl (fun q34 => ?_) (fun q34 => ?_)
          · skip
            refine own_iload M X30 at_132 rfl rfl ?_
            refine own_iconst M X30 (v := (3 : Int32)) at_134 rfl rfl ?_
            refine own_icmp_lt M X30 at_135 (by decide) rfl rfl (fun q35 => ?_) (fun q35 => ?_)
            · skip
              refine own_iload M X30 at_144 rfl rfl ?_
              refine own_iload M X30 at_146 rfl rfl ?_
              refine own_isub M X30 at_148 rfl ?_
              show own_Fin n0 K _ T27 149 #[.val (.int u0), .val (.int u1), .val (.int u2), .val (.int u3), .val (.int u4), .val (.int u5), .val (.int (2 : Int32)), .val (.int (0 : Int32)), .val (.int u8), .val (.int u9), .val (.ref a3), .unset, .unset] [(.int (2 : Int32))]
              refine own_istore M X30 (L' := #[.val (.int u0), .val (.int u1), .val (.int u2), .val (.int u3), .val (.int u4), .val (.int u5), .val (.int (2 : Int32)), .val (.int (0 : Int32)), .val (.int u8), .val (.int u9), .val (.ref a3), .val (.int (2 : Int32)), .unset]) at_149 rfl rfl ?_
              refine own_iload M X30 at_151 rfl rfl ?_
              refine own_iconst M X30 (v := (1 : Int32)) at_153 rfl rfl ?_
              refine own_icmp_lt M X30 at_154 (by decide) rfl rfl (fun q36 => ?_) (fun q36 => ?_)
              · exact absurd q36 (by decide)
              · skip
                refine own_iload M X30 at_157 rfl rfl ?_
                refine own_iloadN M X30 at_159 rfl rfl ?_
                refine own_icmp_eq M X30 at_160 (by decide) rfl rfl (fun q37 => ?_) (fun q37 => ?_)
                · skip
                  refine own_iconst M X30 (v := (1 : Int32)) at_187 rfl rfl ?_
                  refine own_goto M X30 at_188 (by decide) rfl ?_
                  refine own_istore M X30 (L' := #[.val (.int u0), .val (.int u1), .val (.int u2), .val (.int u3), .val (.int u4), .val (.int u5), .val (.int (2 : Int32)), .val (.int (0 : Int32)), .val (.int u8), .val (.int u9), .val (.ref a3), .val (.int (2 : Int32)), .val (.int (1 : Int32))]) at_192 rfl rfl ?_
                  refine own_aload M X30 at_194 rfl rfl rfl ?_
                  refine own_iload M X30 at_196 rfl rfl ?_
                  refine own_callVP M X30 (yrm := ({ frames := 0, cells := 0, slots := 0, locals := 0 } : Room)) [(.int u9)] (hw _ (List.mem_of_getElem? (i := 16) rfl)) (hw _ (List.mem_of_getElem? (i := 18) rfl)) (hw _ (List.mem_of_getElem? (i := 17) rfl)) (hw _ (List.mem_of_getElem? (i := 19) rfl)) (hw _ (List.mem_of_getElem? (i := 6) rfl)) (hw _ (List.mem_of_getElem? (i := 20) rfl)) (by decide) E31 (met_4 _ Z a0 hw h28 n0 X30.size a3 u9 [u0, u1] B26 (by simp)) rfl at_198 rfl own_pd2 rfl rfl 0 (Nat.le_of_eq rfl) (by decide) (by decide) rfl rfl ?_
                  intro T38 X39
                  refine own_iload M X39 at_201 rfl rfl ?_
                  refine own_icmp_ne M X39 at_203 (by decide) rfl rfl (fun q40 => ?_) (fun q40 => ?_)
                  · skip
                    refine own_iconst M X39 (v := (0 : Int32)) at_210 rfl rfl ?_
                    exact own_retN M X39 (z' := (0 : Int32)) (by simp) at_211 rfl (by have hP1 := hP h28; rw [T0_63_2_0, if_pos q37, if_neg q40] at hP1; exact hP1)
                  · skip
                    refine own_iconst M X39 (v := (1 : Int32)) at_206 rfl rfl ?_
                    refine own_goto M X39 at_207 (by decide) rfl ?_
                    exact own_retN M X39 (z' := (1 : Int32)) (by simp) at_211 rfl (by have hP1 := hP h28; rw [T0_63_2_0, if_pos q37, if_pos q40] at hP1; exact hP1)
                · skip
                  refine own_iload M X30 at_163 rfl rfl ?_
                  refine own_iconst M X30 (v := (2 : Int32)) at_165 rfl rfl ?_
                  refine own_icmp_lt M X30 at_166 (by decide) rfl rfl (fun q41 => ?_) (fun q41 => ?_)
                  · exact absurd q41 (by decide)
                  · skip
                    refine own_iload M X30 at_169 rfl rfl ?_
                    refine own_iloadN M X30 at_171 rfl rfl ?_
                    refine own_icmp_eq M X30 at_172 (by decide) rfl rfl (fun q42 => ?_) (fun q42 => ?_)
                    · skip
                      refine own_iconst M X30 (v := (1 : Int32)) at_187 rfl rfl ?_
                      refine own_goto M X30 at_188 (by decide) rfl ?_
                      refine own_istore M X30 (L' := #[.val (.int u0), .val (.int u1), .val (.int u2), .val (.int u3), .val (.int u4), .val (.int u5), .val (.int (2 : Int32)), .val (.int (0 : Int32)), .val (.int u8), .val (.int u9), .val (.ref a3), .val (.int (2 : Int32)), .val (.int (1 : Int32))]) at_192 rfl rfl ?_
                      refine own_aload M X30 at_194 rfl rfl rfl ?_
                      refine own_iload M X30 at_196 rfl rfl ?_
                      refine own_callVP M X30 (yrm := ({ frames := 0, cells := 0, slots := 0, locals := 0 } : Room)) [(.int u9)] (hw _ (List.mem_of_getElem? (i := 16) rfl)) (hw _ (List.mem_of_getElem? (i := 18) rfl)) (hw _ (List.mem_of_getElem? (i := 17) rfl)) (hw _ (List.mem_of_getElem? (i := 19) rfl)) (hw _ (List.mem_of_getElem? (i := 6) rfl)) (hw _ (List.mem_of_getElem? (i := 20) rfl)) (by decide) E31 (met_4 _ Z a0 hw h28 n0 X30.size a3 u9 [u0, u1] B26 (by simp)) rfl at_198 rfl own_pd2 rfl rfl 0 (Nat.le_of_eq rfl) (by decide) (by decide) rfl rfl ?_
                      intro T43 X44
                      refine own_iload M X44 at_201 rfl rfl ?_
                      refine own_icmp_ne M X44 at_203 (by decide) rfl rfl (fun q45 => ?_) (fun q45 => ?_)
                      · skip
                        refine own_iconst M X44 (v := (0 : Int32)) at_210 rfl rfl ?_
                        exact own_retN M X44 (z' := (0 : Int32)) (by simp) at_211 rfl (by have hP1 := hP h28; rw [T0_63_2_0, if_neg q37, if_pos q42, if_neg q45] at hP1; exact hP1)
                      · skip
                        refine own_iconst M X44 (v := (1 : Int32)) at_206 rfl rfl ?_
                        refine own_goto M X44 at_207 (by decide) rfl ?_
                        exact own_retN M X44 (z' := (1 : Int32)) (by simp) at_211 rfl (by have hP1 := hP h28; rw [T0_63_2_0, if_neg q37, if_pos q42, if_pos q45] at hP1; exact hP1)
                    · skip
                      refine own_iload M X30 at_175 rfl rfl ?_
                      refine own_iconst M X30 (v := (3 : Int32)) at_177 rfl rfl ?_
                      refine own_icmp_lt M X30 at_178 (by decide) rfl rfl (fun q46 => ?_) (fun q46 => ?_)
                      · skip
                        refine own_iconst M X30 (v := (0 : Int32)) at_191 rfl rfl ?_
                        refine own_istore M X30 (L' := #[.val (.int u0), .val (.int u1), .val (.int u2), .val (.int u3), .val (.int u4), .val (.int u5), .val (.int (2 : Int32)), .val (.int (0 : Int32)), .val (.int u8), .val (.int u9), .val (.ref a3), .val (.int (2 : Int32)), .val (.int (0 : Int32))]) at_192 rfl rfl ?_
                        refine own_aload M X30 at_194 rfl rfl rfl ?_
                        refine own_iload M X30 at_196 rfl rfl ?_
                        refine own_callVP M X30 (yrm := ({ frames := 0, cells := 0, slots := 0, locals := 0 } : Room)) [(.int u9)] (hw _ (List.mem_of_getElem? (i := 16) rfl)) (hw _ (List.mem_of_getElem? (i := 18) rfl)) (hw _ (List.mem_of_getElem? (i := 17) rfl)) (hw _ (List.mem_of_getElem? (i := 19) rfl)) (hw _ (List.mem_of_getElem? (i := 6) rfl)) (hw _ (List.mem_of_getElem? (i := 20) rfl)) (by decide) E31 (met_4 _ Z a0 hw h28 n0 X30.size a3 u9 [u0, u1] B26 (by simp)) rfl at_198 rfl own_pd2 rfl rfl 0 (Nat.le_of_eq rfl) (by decide) (by decide) rfl rfl ?_
                        intro T47 X48
                        refine own_iload M X48 at_201 rfl rfl ?_
                        refine own_icmp_ne M X48 at_203 (by decide) rfl rfl (fun q49 => ?_) (fun q49 => ?_)
                        · skip
                          refine own_iconst M X48 (v := (0 : Int32)) at_210 rfl rfl ?_
                          exact own_retN M X48 (z' := (0 : Int32)) (by simp) at_211 rfl (by have hP1 := hP h28; rw [T0_63_2_0, if_neg q37, if_neg q42, if_neg q49] at hP1; exact hP1)
                        · skip
                          refine own_iconst M X48 (v := (1 : Int32)) at_206 rfl rfl ?_
                          refine own_goto M X48 at_207 (by decide) rfl ?_
                          exact own_retN M X48 (z' := (1 : Int32)) (by simp) at_211 rfl (by have hP1 := hP h28; rw [T0_63_2_0, if_neg q37, if_neg q42, if_pos q49] at hP1; exact hP1)
                      · exact absurd (by decide) q46
            · exact absurd (by decide) q35
          · exact absurd (by decide) q34
        · exact absurd (by decide) q33
      · exact absurd (by decide) q32
def T0_63_2_1 (u0 : Int32) (u9 : Int32) : Int32 := (if u9 = u0 then (if (own_ct [u0] u9) = (1 : Int32) then (1 : Int32) else (0 : Int32)) else (if (own_ct [u0] u9) = (0 : Int32) then (1 : Int32) else (0 : Int32)))
set_option maxRecDepth 65536 in
set_option maxHeartbeats 40000000 in
theorem tl0_63_2_1 (l : Launch) (Z : State) (a0 : Array Value) (hw : ∀ d ∈ tables_1, d.before a0 Z = true) {n0 : Nat} {K : own_Cx} {P : Option Value → Heap → Prop} {T : State} {h : Heap} (M : own_Mx Z a0 K code "com/example/mangrove/mangrove/reasoner/IntStackContainsPinLaw" maxLocals ret room_1) (X : own_Sx n0 K T h 0 0) (u0 u1 u2 u3 u4 u5 u6 u7 u8 u9 : Int32) (e6 : u6 = 2) (e7 : u7 = 1)
    (hP : ∀ hh, P (some (.int (T0_63_2_1 u0 u9))) hh) : own_Fin n0 K P T 63 #[.val (.int u0), .val (.int u1), .val (.int u2), .val (.int u3), .val (.int u4), .val (.int u5), .val (.int u6), .val (.int u7), .val (.int u8), .val (.int u9), .unset, .unset, .unset] [] := by
  subst e6 e7
  refine own_new M X (hw _ (List.mem_of_getElem? (i := 4) rfl)) (hw _ (List.mem_of_getElem? (i := 5) rfl)) (hw _ (List.mem_of_getElem? (i := 6) rfl)) at_63 rfl (by decide) (by decide) ?_
  intro T1 h2 a3 ge4 gs5 X6 E7 A8 D9
  have F10 : Fld Z h2 a3 "com/example/mangrove/mangrove/reasoner/IntStack" "values" "[I" .null := D9 (Or.inl (hw _ (List.mem_of_getElem? (i := 15) rfl))) (ty := (.array .int)) (by decide)
  have F11 : Fld Z h2 a3 "com/example/mangrove/mangrove/reasoner/IntStack" "size" "I" (.int (0 : Int32)) := D9 (Or.inl (hw _ (List.mem_of_getElem? (i := 22) rfl))) (ty := .int) (by decide)
  refine own_dup M X6 at_66 rfl rfl ?_
  refine own_callN M X6 (yrm := ({ frames := 1, cells := 1, slots := 16, locals := 12 } : Room)) [] (hw _ (List.mem_of_getElem? (i := 7) rfl)) (hw _ (List.mem_of_getElem? (i := 8) rfl)) (hw _ (List.mem_of_getElem? (i := 6) rfl)) (hw _ (List.mem_of_getElem? (i := 9) rfl)) (by decide) rfl rfl (met_2 _ Z a0 hw h2 n0 X6.size a3 ge4 A8 F11 F10) rfl at_67 rfl own_pd1 rfl rfl 1 (Nat.le_of_eq rfl) (by decide) (by decide) (by decide) (by decide) ?_
  rintro T13 h14 v15 X16 ⟨rfl, B12⟩
  have E17 := B12.1
  replace X16 : own_Sx n0 K T13 h14 2 18 := X16
  show own_Fin n0 K _ T13 70 #[.val (.int u0), .val (.int u1), .val (.int u2), .val (.int u3), .val (.int u4), .val (.int u5), .val (.int (2 : Int32)), .val (.int (1 : Int32)), .val (.int u8), .val (.int u9), .unset, .unset, .unset] [(.ref a3)]
  refine own_astore M X16 (L' := #[.val (.int u0), .val (.int u1), .val (.int u2), .val (.int u3), .val (.int u4), .val (.int u5), .val (.int (2 : Int32)), .val (.int (1 : Int32)), .val (.int u8), .val (.int u9), .val (.ref a3), .unset, .unset]) at_70 rfl rfl rfl ?_
  refine own_iload M X16 at_72 rfl rfl ?_
  refine own_iconst M X16 (v := (1 : Int32)) at_74 rfl rfl ?_
  refine own_icmp_lt M X16 at_75 (by decide) rfl rfl (fun q18 => ?_) (fun q18 => ?_)
  · exact absurd q18 (by decide)
  · skip
    refine own_aload M X16 at_78 rfl rfl rfl ?_
    refine own_iloadN M X16 at_80 rfl rfl ?_
    refine own_callV M X16 (yrm := ({ frames := 0, cells := 0, slots := 0, locals := 0 } : Room)) [(.int u0)] (hw _ (List.mem_of_getElem? (i := 23) rfl)) (hw _ (List.mem_of_getElem? (i := 25) rfl)) (hw _ (List.mem_of_getElem? (i := 24) rfl)) (hw _ (List.mem_of_getElem? (i := 26) rfl)) (hw _ (List.mem_of_getElem? (i := 6) rfl)) (hw _ (List.mem_of_getElem? (i := 27) rfl)) (by decide) E17 (met_5 _ Z a0 hw h14 n0 X16.size a3 u0 [] B12 ge4 (by simp)) rfl at_81 rfl own_pd3 rfl rfl 0 (Nat.le_of_eq rfl) (by decide) (by decide) (by decide) (by decide) ?_
    rintro T20 h21 v22 X23 ⟨rfl, B19⟩
    replace B19 : own_Is Z h21 n0 a3 [u0] := B19
    have E24 := B19.1
    replace X23 : own_Sx n0 K T20 h21 2 18 := X23
    show own_Fin n0 K _ T20 84 #[.val (.int u0), .val (.int u1), .val (.int u2), .val (.int u3), .val (.int u4), .val (.int u5), .val (.int (2 : Int32)), .val (.int (1 : Int32)), .val (.int u8), .val (.int u9), .val (.ref a3), .unset, .unset] []
    refine own_iload M X23 at_84 rfl rfl ?_
    refine own_iconst M X23 (v := (2 : Int32)) at_86 rfl rfl ?_
    refine own_icmp_lt M X23 at_87 (by decide) rfl rfl (fun q25 => ?_) (fun q25 => ?_)
    · exact absurd q25 (by decide)
    · skip
      refine own_aload M X23 at_90 rfl rfl rfl ?_
      refine own_iloadN M X23 at_92 rfl rfl ?_
      refine own_callV M X23 (yrm := ({ frames := 0, cells := 0, slots := 0, locals := 0 } : Room)) [(.int u1)] (hw _ (List.mem_of_getElem? (i := 23) rfl)) (hw _ (List.mem_of_getElem? (i := 25) rfl)) (hw _ (List.mem_of_getElem? (i := 24) rfl)) (hw _ (List.mem_of_getElem? (i := 26) rfl)) (hw _ (List.mem_of_getElem? (i := 6) rfl)) (hw _ (List.mem_of_getElem? (i := 27) rfl)) (by decide) E24 (met_5 _ Z a0 hw h21 n0 X23.size a3 u1 [u0] B19 ge4 (by simp)) rfl at_93 rfl own_pd3 rfl rfl 0 (Nat.le_of_eq rfl) (by decide) (by decide) (by decide) (by decide) ?_
      rintro T27 h28 v29 X30 ⟨rfl, B26⟩
      replace B26 : own_Is Z h28 n0 a3 [u0, u1] := B26
      have E31 := B26.1
      replace X30 : own_Sx n0 K T27 h28 2 18 := X30
      show own_Fin n0 K _ T27 96 #[.val (.int u0), .val (.int u1), .val (.int u2), .val (.int u3), .val (.int u4), .val (.int u5), .val (.int (2 : Int32)), .val (.int (1 : Int32)), .val (.int u8), .val (.int u9), .val (.ref a3), .unset, .unset] []
      refine own_iload M X30 at_96 rfl rfl ?_
      refine own_iconst M X30 (v := (3 : Int32)) at_98 rfl rfl ?_
      refine own_icmp_lt M X30 at_99 (by decide) rfl rfl (fun q32 => ?_) (fun q32 => ?_)
      · skip
        refine own_iload M X30 at_108 rfl rfl ?_
        refine own_iconst M X30 (v := (1 : Int32)) at_110 rfl rfl ?_
        refine own_icmp_lt M X30 at_111 (by decide) rfl rfl (fun q33 => ?_) (fun q33 => ?_)
        · exact absurd q33 (by decide)
        · skip
          refine own_aload M X30 at_114 rfl rfl rfl ?_
          refine own_callV M X30 (yrm := ({ frames := 0, cells := 0, slots := 0, locals := 0 } : Room)) [] (hw _ (List.mem_of_getElem? (i := 28) rfl)) (hw _ (List.mem_of_getElem? (i := 30) rfl)) (hw _ (List.mem_of_getElem? (i := 29) rfl)) (hw _ (List.mem_of_getElem? (i := 31) rfl)) (hw _ (List.mem_of_getElem? (i := 6) rfl)) (hw _ (List.mem_of_getElem? (i := 32) rfl)) (by decide) E31 (met_6 _ Z a0 hw h28 n0 X30.size a3 [u0] u1 B26 ge4 (by simp)) rfl at_116 rfl own_pd4 rfl rfl 0 (Nat.le_of_eq rfl) (by decide) (by decide) (by decide) (by decide) ?_
          rintro T35 h36 v37 X38 ⟨rfl, B34⟩
          have E39 := B34.1
          replace X38 : own_Sx n0 K T35 h36 2 18 := X38
          show own_Fin n0 K _ T35 119 #[.val (.int u0), .val (.int u1), .val (.int u2), .val (.int u3), .val (.int u4), .val (.int u5), .val (.int (2 : Int32)), .val (.int (1 : Int32)), .val (.int u8), .val (.int u9), .val (.ref a3), .unset, .unset] [(.int u1)]
          refine own_pop M X38 at_119 rfl rfl ?_
          refine own_iload M X38 at_120 rfl rfl ?_
          refine own_iconst M X38 (v := (2 : Int32)) at_122 rfl rfl ?_
          refine own_icmp_lt M X38 at_123 (by decide) rfl rfl (fun q40 => ?_) (fun q40 => ?_)
          · skip
            refine own_iload M X38 at_132 rfl rfl ?_
            refine own_iconst M X38 (v := (3 : Int32)) at_134 rfl rfl ?_
            refine own_icmp_lt M X38 at_135 (by decide) rfl rfl (fun q41 => ?_) (fun q41 => ?_)
            · skip
              refine own_iload M X38 at_144 rfl rfl ?_
              refine own_iload M X38 at_146 rfl rfl ?_
              refine own_isub M X38 at_148 rfl ?_
              show own_Fin n0 K _ T35 149 #[.val (.int u0), .val (.int u1), .val (.int u2), .val (.int u3), .val (.int u4), .val (.int u5), .val (.int (2 : Int32)), .val (.int (1 : Int32)), .val (.int u8), .val (.int u9), .val (.ref a3), .unset, .unset] [(.int (1 : Int32))]
              refine own_istore M X38 (L' := #[.val (.int u0), .val (.int u1), .val (.int u2), .val (.int u3), .val (.int u4), .val (.int u5), .val (.int (2 : Int32)), .val (.int (1 : Int32)), .val (.int u8), .val (.int u9), .val (.ref a3), .val (.int (1 : Int32)), .unset]) at_149 rfl rfl ?_
              refine own_iload M X38 at_151 rfl rfl ?_
              refine own_iconst M X38 (v := (1 : Int32)) at_153 rfl rfl ?_
              refine own_icmp_lt M X38 at_154 (by decide) rfl rfl (fun q42 => ?_) (fun q42 => ?_)
              · exact absurd q42 (by decide)
              · skip
                refine own_iload M X38 at_157 rfl rfl ?_
                refine own_iloadN M X38 at_159 rfl rfl ?_
                refine own_icmp_eq M X38 at_160 (by decide) rfl rfl (fun q43 => ?_) (fun q43 => ?_)
                · skip
                  refine own_iconst M X38 (v := (1 : Int32)) at_187 rfl rfl ?_
                  refine own_goto M X38 at_188 (by decide) rfl ?_
                  refine own_istore M X38 (L' := #[.val (.int u0), .val (.int u1), .val (.int u2), .val (.int u3), .val (.int u4), .val (.int u5), .val (.int (2 : Int32)), .val (.int (1 : Int32)), .val (.int u8), .val (.int u9), .val (.ref a3), .val (.int (1 : Int32)), .val (.int (1 : Int32))]) at_192 rfl rfl ?_
                  refine own_aload M X38 at_194 rfl rfl rfl ?_
                  refine own_iload M X38 at_196 rfl rfl ?_
                  refine own_callVP M X38 (yrm := ({ frames := 0, cells := 0, slots := 0, locals := 0 } : Room)) [(.int u9)] (hw _ (List.mem_of_getElem? (i := 16) rfl)) (hw _ (List.mem_of_getElem? (i := 18) rfl)) (hw _ (List.mem_of_getElem? (i := 17) rfl)) (hw _ (List.mem_of_getElem? (i := 19) rfl)) (hw _ (List.mem_of_getElem? (i := 6) rfl)) (hw _ (List.mem_of_getElem? (i := 20) rfl)) (by decide) E39 (met_4 _ Z a0 hw h36 n0 X38.size a3 u9 [u0] B34 (by simp)) rfl at_198 rfl own_pd2 rfl rfl 0 (Nat.le_of_eq rfl) (by decide) (by decide) rfl rfl ?_
                  intro T44 X45
                  refine own_iload M X45 at_201 rfl rfl ?_
                  refine own_icmp_ne M X45 at_203 (by decide) rfl rfl (fun q46 => ?_) (fun q46 => ?_)
                  · skip
                    refine own_iconst M X45 (v := (0 : Int32)) at_210 rfl rfl ?_
                    exact own_retN M X45 (z' := (0 : Int32)) (by simp) at_211 rfl (by have hP1 := hP h36; rw [T0_63_2_1, if_pos q43, if_neg q46] at hP1; exact hP1)
                  · skip
                    refine own_iconst M X45 (v := (1 : Int32)) at_206 rfl rfl ?_
                    refine own_goto M X45 at_207 (by decide) rfl ?_
                    exact own_retN M X45 (z' := (1 : Int32)) (by simp) at_211 rfl (by have hP1 := hP h36; rw [T0_63_2_1, if_pos q43, if_pos q46] at hP1; exact hP1)
                · skip
                  refine own_iload M X38 at_163 rfl rfl ?_
                  refine own_iconst M X38 (v := (2 : Int32)) at_165 rfl rfl ?_
                  refine own_icmp_lt M X38 at_166 (by decide) rfl rfl (fun q47 => ?_) (fun q47 => ?_)
                  · skip
                    refine own_iload M X38 at_175 rfl rfl ?_
                    refine own_iconst M X38 (v := (3 : Int32)) at_177 rfl rfl ?_
                    refine own_icmp_lt M X38 at_178 (by decide) rfl rfl (fun q48 => ?_) (fun q48 => ?_)
                    · skip
                      refine own_iconst M X38 (v := (0 : Int32)) at_191 rfl rfl ?_
                      refine own_istore M X38 (L' := #[.val (.int u0), .val (.int u1), .val (.int u2), .val (.int u3), .val (.int u4), .val (.int u5), .val (.int (2 : Int32)), .val (.int (1 : Int32)), .val (.int u8), .val (.int u9), .val (.ref a3), .val (.int (1 : Int32)), .val (.int (0 : Int32))]) at_192 rfl rfl ?_
                      refine own_aload M X38 at_194 rfl rfl rfl ?_
                      refine own_iload M X38 at_196 rfl rfl ?_
                      refine own_callVP M X38 (yrm := ({ frames := 0, cells := 0, slots := 0, locals := 0 } : Room)) [(.int u9)] (hw _ (List.mem_of_getElem? (i := 16) rfl)) (hw _ (List.mem_of_getElem? (i := 18) rfl)) (hw _ (List.mem_of_getElem? (i := 17) rfl)) (hw _ (List.mem_of_getElem? (i := 19) rfl)) (hw _ (List.mem_of_getElem? (i := 6) rfl)) (hw _ (List.mem_of_getElem? (i := 20) rfl)) (by decide) E39 (met_4 _ Z a0 hw h36 n0 X38.size a3 u9 [u0] B34 (by simp)) rfl at_198 rfl own_pd2 rfl rfl 0 (Nat.le_of_eq rfl) (by decide) (by decide) rfl rfl ?_
                      intro T49 X50
                      refine own_iload M X50 at_201 rfl rfl ?_
                      refine own_icmp_ne M X50 at_203 (by decide) rfl rfl (fun q51 => ?_) (fun q51 => ?_)
                      · skip
                        refine own_iconst M X50 (v := (0 : Int32)) at_210 rfl rfl ?_
                        exact own_retN M X50 (z' := (0 : Int32)) (by simp) at_211 rfl (by have hP1 := hP h36; rw [T0_63_2_1, if_neg q43, if_neg q51] at hP1; exact hP1)
                      · skip
                        refine own_iconst M X50 (v := (1 : Int32)) at_206 rfl rfl ?_
                        refine own_goto M X50 at_207 (by decide) rfl ?_
                        exact own_retN M X50 (z' := (1 : Int32)) (by simp) at_211 rfl (by have hP1 := hP h36; rw [T0_63_2_1, if_neg q43, if_pos q51] at hP1; exact hP1)
                    · exact absurd (by decide) q48
                  · exact absurd (by decide) q47
            · exact absurd (by decide) q41
          · exact absurd (by decide) q40
      · exact absurd (by decide) q32
def T0_63_2_2 (u9 : Int32) : Int32 := (if (own_ct [] u9) = (0 : Int32) then (1 : Int32) else (0 : Int32))
set_option maxRecDepth 65536 in
set_option maxHeartbeats 40000000 in
theorem tl0_63_2_2 (l : Launch) (Z : State) (a0 : Array Value) (hw : ∀ d ∈ tables_1, d.before a0 Z = true) {n0 : Nat} {K : own_Cx} {P : Option Value → Heap → Prop} {T : State} {h : Heap} (M : own_Mx Z a0 K code "com/example/mangrove/mangrove/reasoner/IntStackContainsPinLaw" maxLocals ret room_1) (X : own_Sx n0 K T h 0 0) (u0 u1 u2 u3 u4 u5 u6 u7 u8 u9 : Int32) (e6 : u6 = 2) (e7 : u7 = 2)
    (hP : ∀ hh, P (some (.int (T0_63_2_2 u9))) hh) : own_Fin n0 K P T 63 #[.val (.int u0), .val (.int u1), .val (.int u2), .val (.int u3), .val (.int u4), .val (.int u5), .val (.int u6), .val (.int u7), .val (.int u8), .val (.int u9), .unset, .unset, .unset] [] := by
  subst e6 e7
  refine own_new M X (hw _ (List.mem_of_getElem? (i := 4) rfl)) (hw _ (List.mem_of_getElem? (i := 5) rfl)) (hw _ (List.mem_of_getElem? (i := 6) rfl)) at_63 rfl (by decide) (by decide) ?_
  intro T1 h2 a3 ge4 gs5 X6 E7 A8 D9
  have F10 : Fld Z h2 a3 "com/example/mangrove/mangrove/reasoner/IntStack" "values" "[I" .null := D9 (Or.inl (hw _ (List.mem_of_getElem? (i := 15) rfl))) (ty := (.array .int)) (by decide)
  have F11 : Fld Z h2 a3 "com/example/mangrove/mangrove/reasoner/IntStack" "size" "I" (.int (0 : Int32)) := D9 (Or.inl (hw _ (List.mem_of_getElem? (i := 22) rfl))) (ty := .int) (by decide)
  refine own_dup M X6 at_66 rfl rfl ?_
  refine own_callN M X6 (yrm := ({ frames := 1, cells := 1, slots := 16, locals := 12 } : Room)) [] (hw _ (List.mem_of_getElem? (i := 7) rfl)) (hw _ (List.mem_of_getElem? (i := 8) rfl)) (hw _ (List.mem_of_getElem? (i := 6) rfl)) (hw _ (List.mem_of_getElem? (i := 9) rfl)) (by decide) rfl rfl (met_2 _ Z a0 hw h2 n0 X6.size a3 ge4 A8 F11 F10) rfl at_67 rfl own_pd1 rfl rfl 1 (Nat.le_of_eq rfl) (by decide) (by decide) (by decide) (by decide) ?_
  rintro T13 h14 v15 X16 ⟨rfl, B12⟩
  have E17 := B12.1
  replace X16 : own_Sx n0 K T13 h14 2 18 := X16
  show own_Fin n0 K _ T13 70 #[.val (.int u0), .val (.int u1), .val (.int u2), .val (.int u3), .val (.int u4), .val (.int u5), .val (.int (2 : Int32)), .val (.int (2 : Int32)), .val (.int u8), .val (.int u9), .unset, .unset, .unset] [(.ref a3)]
  refine own_astore M X16 (L' := #[.val (.int u0), .val (.int u1), .val (.int u2), .val (.int u3), .val (.int u4), .val (.int u5), .val (.int (2 : Int32)), .val (.int (2 : Int32)), .val (.int u8), .val (.int u9), .val (.ref a3), .unset, .unset]) at_70 rfl rfl rfl ?_
  refine own_iload M X16 at_72 rfl rfl ?_
  refine own_iconst M X16 (v := (1 : Int32)) at_74 rfl rfl ?_
  refine own_icmp_lt M X16 at_75 (by decide) rfl rfl (fun q18 => ?_) (fun q18 => ?_)
  · exact absurd q18 (by decide)
  · skip
    refine own_aload M X16 at_78 rfl rfl rfl ?_
    refine own_iloadN M X16 at_80 rfl rfl ?_
    refine own_callV M X16 (yrm := ({ frames := 0, cells := 0, slots := 0, locals := 0 } : Room)) [(.int u0)] (hw _ (List.mem_of_getElem? (i := 23) rfl)) (hw _ (List.mem_of_getElem? (i := 25) rfl)) (hw _ (List.mem_of_getElem? (i := 24) rfl)) (hw _ (List.mem_of_getElem? (i := 26) rfl)) (hw _ (List.mem_of_getElem? (i := 6) rfl)) (hw _ (List.mem_of_getElem? (i := 27) rfl)) (by decide) E17 (met_5 _ Z a0 hw h14 n0 X16.size a3 u0 [] B12 ge4 (by simp)) rfl at_81 rfl own_pd3 rfl rfl 0 (Nat.le_of_eq rfl) (by decide) (by decide) (by decide) (by decide) ?_
    rintro T20 h21 v22 X23 ⟨rfl, B19⟩
    replace B19 : own_Is Z h21 n0 a3 [u0] := B19
    have E24 := B19.1
    replace X23 : own_Sx n0 K T20 h21 2 18 := X23
    show own_Fin n0 K _ T20 84 #[.val (.int u0), .val (.int u1), .val (.int u2), .val (.int u3), .val (.int u4), .val (.int u5), .val (.int (2 : Int32)), .val (.int (2 : Int32)), .val (.int u8), .val (.int u9), .val (.ref a3), .unset, .unset] []
    refine own_iload M X23 at_84 rfl rfl ?_
    refine own_iconst M X23 (v := (2 : Int32)) at_86 rfl rfl ?_
    refine own_icmp_lt M X23 at_87 (by decide) rfl rfl (fun q25 => ?_) (fun q25 => ?_)
    · exact absurd q25 (by decide)
    · skip
      refine own_aload M X23 at_90 rfl rfl rfl ?_
      refine own_iloadN M X23 at_92 rfl rfl ?_
      refine own_callV M X23 (yrm := ({ frames := 0, cells := 0, slots := 0, locals := 0 } : Room)) [(.int u1)] (hw _ (List.mem_of_getElem? (i := 23) rfl)) (hw _ (List.mem_of_getElem? (i := 25) rfl)) (hw _ (List.mem_of_getElem? (i := 24) rfl)) (hw _ (List.mem_of_getElem? (i := 26) rfl)) (hw _ (List.mem_of_getElem? (i := 6) rfl)) (hw _ (List.mem_of_getElem? (i := 27) rfl)) (by decide) E24 (met_5 _ Z a0 hw h21 n0 X23.size a3 u1 [u0] B19 ge4 (by simp)) rfl at_93 rfl own_pd3 rfl rfl 0 (Nat.le_of_eq rfl) (by decide) (by decide) (by decide) (by decide) ?_
      rintro T27 h28 v29 X30 ⟨rfl, B26⟩
      replace B26 : own_Is Z h28 n0 a3 [u0, u1] := B26
      have E31 := B26.1
      replace X30 : own_Sx n0 K T27 h28 2 18 := X30
      show own_Fin n0 K _ T27 96 #[.val (.int u0), .val (.int u1), .val (.int u2), .val (.int u3), .val (.int u4), .val (.int u5), .val (.int (2 : Int32)), .val (.int (2 : Int32)), .val (.int u8), .val (.int u9), .val (.ref a3), .unset, .unset] []
      refine own_iload M X30 at_96 rfl rfl ?_
      refine own_iconst M X30 (v := (3 : Int32)) at_98 rfl rfl ?_
      refine own_icmp_lt M X30 at_99 (by decide) rfl rfl (fun q32 => ?_) (fun q32 => ?_)
      · skip
        refine own_iload M X30 at_108 rfl rfl ?_
        refine own_iconst M X30 (v := (1 : Int32)) at_110 rfl rfl ?_
        refine own_icmp_lt M X30 at_111 (by decide) rfl rfl (fun q33 => ?_) (fun q33 => ?_)
        · exact absurd q33 (by decide)
        · skip
          refine own_aload M X30 at_114 rfl rfl rfl ?_
          refine own_callV M X30 (yrm := ({ frames := 0, cells := 0, slots := 0, locals := 0 } : Room)) [] (hw _ (List.mem_of_getElem? (i := 28) rfl)) (hw _ (List.mem_of_getElem? (i := 30) rfl)) (hw _ (List.mem_of_getElem? (i := 29) rfl)) (hw _ (List.mem_of_getElem? (i := 31) rfl)) (hw _ (List.mem_of_getElem? (i := 6) rfl)) (hw _ (List.mem_of_getElem? (i := 32) rfl)) (by decide) E31 (met_6 _ Z a0 hw h28 n0 X30.size a3 [u0] u1 B26 ge4 (by simp)) rfl at_116 rfl own_pd4 rfl rfl 0 (Nat.le_of_eq rfl) (by decide) (by decide) (by decide) (by decide) ?_
          rintro T35 h36 v37 X38 ⟨rfl, B34⟩
          have E39 := B34.1
          replace X38 : own_Sx n0 K T35 h36 2 18 := X38
          show own_Fin n0 K _ T35 119 #[.val (.int u0), .val (.int u1), .val (.int u2), .val (.int u3), .val (.int u4), .val (.int u5), .val (.int (2 : Int32)), .val (.int (2 : Int32)), .val (.int u8), .val (.int u9), .val (.ref a3), .unset, .unset] [(.int u1)]
          refine own_pop M X38 at_119 rfl rfl ?_
          refine own_iload M X38 at_120 rfl rfl ?_
          refine own_iconst M X38 (v := (2 : Int32)) at_122 rfl rfl ?_
          refine own_icmp_lt M X38 at_123 (by decide) rfl rfl (fun q40 => ?_) (fun q40 => ?_)
          · exact absurd q40 (by decide)
          · skip
            refine own_aload M X38 at_126 rfl rfl rfl ?_
            refine own_callV M X38 (yrm := ({ frames := 0, cells := 0, slots := 0, locals := 0 } : Room)) [] (hw _ (List.mem_of_getElem? (i := 28) rfl)) (hw _ (List.mem_of_getElem? (i := 30) rfl)) (hw _ (List.mem_of_getElem? (i := 29) rfl)) (hw _ (List.mem_of_getElem? (i := 31) rfl)) (hw _ (List.mem_of_getElem? (i := 6) rfl)) (hw _ (List.mem_of_getElem? (i := 32) rfl)) (by decide) E39 (met_6 _ Z a0 hw h36 n0 X38.size a3 [] u0 B34 ge4 (by simp)) rfl at_128 rfl own_pd4 rfl rfl 0 (Nat.le_of_eq rfl) (by decide) (by decide) (by decide) (by decide) ?_
            rintro T42 h43 v44 X45 ⟨rfl, B41⟩
            have E46 := B41.1
            replace X45 : own_Sx n0 K T42 h43 2 18 := X45
            show own_Fin n0 K _ T42 131 #[.val (.int u0), .val (.int u1), .val (.int u2), .val (.int u3), .val (.int u4), .val (.int u5), .val (.int (2 : Int32)), .val (.int (2 : Int32)), .val (.int u8), .val (.int u9), .val (.ref a3), .unset, .unset] [(.int u0)]
            refine own_pop M X45 at_131 rfl rfl ?_
            refine own_iload M X45 at_132 rfl rfl ?_
            refine own_iconst M X45 (v := (3 : Int32)) at_134 rfl rfl ?_
            refine own_icmp_lt M X45 at_135 (by decide) rfl rfl (fun q47 => ?_) (fun q47 => ?_)
            · skip
              refine own_iload M X45 at_144 rfl rfl ?_
              refine own_iload M X45 at_146 rfl rfl ?_
              refine own_isub M X45 at_148 rfl ?_
              show own_Fin n0 K _ T42 149 #[.val (.int u0), .val (.int u1), .val (.int u2), .val (.int u3), .val (.int u4), .val (.int u5), .val (.int (2 : Int32)), .val (.int (2 : Int32)), .val (.int u8), .val (.int u9), .val (.ref a3), .unset, .unset] [(.int (0 : Int32))]
              refine own_istore M X45 (L' := #[.val (.int u0), .val (.int u1), .val (.int u2), .val (.int u3), .val (.int u4), .val (.int u5), .val (.int (2 : Int32)), .val (.int (2 : Int32)), .val (.int u8), .val (.int u9), .val (.ref a3), .val (.int (0 : Int32)), .unset]) at_149 rfl rfl ?_
              refine own_iload M X45 at_151 rfl rfl ?_
              refine own_iconst M X45 (v := (1 : Int32)) at_153 rfl rfl ?_
              refine own_icmp_lt M X45 at_154 (by decide) rfl rfl (fun q48 => ?_) (fun q48 => ?_)
              · skip
                refine own_iload M X45 at_163 rfl rfl ?_
                refine own_iconst M X45 (v := (2 : Int32)) at_165 rfl rfl ?_
                refine own_icmp_lt M X45 at_166 (by decide) rfl rfl (fun q49 => ?_) (fun q49 => ?_)
                · skip
                  refine own_iload M X45 at_175 rfl rfl ?_
                  refine own_iconst M X45 (v := (3 : Int32)) at_177 rfl rfl ?_
                  refine own_icmp_lt M X45 at_178 (by decide) rfl rfl (fun q50 => ?_) (fun q50 => ?_)
                  · skip
                    refine own_iconst M X45 (v := (0 : Int32)) at_191 rfl rfl ?_
                    refine own_istore M X45 (L' := #[.val (.int u0), .val (.int u1), .val (.int u2), .val (.int u3), .val (.int u4), .val (.int u5), .val (.int (2 : Int32)), .val (.int (2 : Int32)), .val (.int u8), .val (.int u9), .val (.ref a3), .val (.int (0 : Int32)), .val (.int (0 : Int32))]) at_192 rfl rfl ?_
                    refine own_aload M X45 at_194 rfl rfl rfl ?_
                    refine own_iload M X45 at_196 rfl rfl ?_
                    refine own_callVP M X45 (yrm := ({ frames := 0, cells := 0, slots := 0, locals := 0 } : Room)) [(.int u9)] (hw _ (List.mem_of_getElem? (i := 16) rfl)) (hw _ (List.mem_of_getElem? (i := 18) rfl)) (hw _ (List.mem_of_getElem? (i := 17) rfl)) (hw _ (List.mem_of_getElem? (i := 19) rfl)) (hw _ (List.mem_of_getElem? (i := 6) rfl)) (hw _ (List.mem_of_getElem? (i := 20) rfl)) (by decide) E46 (met_4 _ Z a0 hw h43 n0 X45.size a3 u9 [] B41 (by simp)) rfl at_198 rfl own_pd2 rfl rfl 0 (Nat.le_of_eq rfl) (by decide) (by decide) rfl rfl ?_
                    intro T51 X52
                    refine own_iload M X52 at_201 rfl rfl ?_
                    refine own_icmp_ne M X52 at_203 (by decide) rfl rfl (fun q53 => ?_) (fun q53 => ?_)
                    · skip
                      refine own_iconst M X52 (v := (0 : Int32)) at_210 rfl rfl ?_
                      exact own_retN M X52 (z' := (0 : Int32)) (by simp) at_211 rfl (by have hP1 := hP h43; rw [T0_63_2_2, if_neg q53] at hP1; exact hP1)
                    · skip
                      refine own_iconst M X52 (v := (1 : Int32)) at_206 rfl rfl ?_
                      refine own_goto M X52 at_207 (by decide) rfl ?_
                      exact own_retN M X52 (z' := (1 : Int32)) (by simp) at_211 rfl (by have hP1 := hP h43; rw [T0_63_2_2, if_pos q53] at hP1; exact hP1)
                  · exact absurd (by decide) q50
                · exact absurd (by decide) q49
              · exact absurd (by decide) q48
            · exact absurd (by decide) q47
      · exact absurd (by decide) q32
def T0_63_3_0 (u0 : Int32) (u1 : Int32) (u2 : Int32) (u9 : Int32) : Int32 := (if u9 = u0 then (if (own_ct [u0, u1, u2] u9) = (1 : Int32) then (1 : Int32) else (0 : Int32)) else (if u9 = u1 then (if (own_ct [u0, u1, u2] u9) = (1 : Int32) then (1 : Int32) else (0 : Int32)) else (if u9 = u2 then (if (own_ct [u0, u1, u2] u9) = (1 : Int32) then (1 : Int32) else (0 : Int32)) else (if (own_ct [u0, u1, u2] u9) = (0 : Int32) then (1 : Int32) else (0 : Int32)))))
set_option maxRecDepth 65536 in
set_option maxHeartbeats 40000000 in
theorem tl0_63_3_0 (l : Launch) (Z : State) (a0 : Array Value) (hw : ∀ d ∈ tables_1, d.before a0 Z = true) {n0 : Nat} {K : own_Cx} {P : Option Value → Heap → Prop} {T : State} {h : Heap} (M : own_Mx Z a0 K code "com/example/mangrove/mangrove/reasoner/IntStackContainsPinLaw" maxLocals ret room_1) (X : own_Sx n0 K T h 0 0) (u0 u1 u2 u3 u4 u5 u6 u7 u8 u9 : Int32) (e6 : u6 = 3) (e7 : u7 = 0)
    (hP : ∀ hh, P (some (.int (T0_63_3_0 u0 u1 u2 u9))) hh) : own_Fin n0 K P T 63 #[.val (.int u0), .val (.int u1), .val (.int u2), .val (.int u3), .val (.int u4), .val (.int u5), .val (.int u6), .val (.int u7), .val (.int u8), .val (.int u9), .unset, .unset, .unset] [] := by
  subst e6 e7
  refine own_new M X (hw _ (List.mem_of_getElem? (i := 4) rfl)) (hw _ (List.mem_of_getElem? (i := 5) rfl)) (hw _ (List.mem_of_getElem? (i := 6) rfl)) at_63 rfl (by decide) (by decide) ?_
  intro T1 h2 a3 ge4 gs5 X6 E7 A8 D9
  have F10 : Fld Z h2 a3 "com/example/mangrove/mangrove/reasoner/IntStack" "values" "[I" .null := D9 (Or.inl (hw _ (List.mem_of_getElem? (i := 15) rfl))) (ty := (.array .int)) (by decide)
  have F11 : Fld Z h2 a3 "com/example/mangrove/mangrove/reasoner/IntStack" "size" "I" (.int (0 : Int32)) := D9 (Or.inl (hw _ (List.mem_of_getElem? (i := 22) rfl))) (ty := .int) (by decide)
  refine own_dup M X6 at_66 rfl rfl ?_
  refine own_callN M X6 (yrm := ({ frames := 1, cells := 1, slots := 16, locals := 12 } : Room)) [] (hw _ (List.mem_of_getElem? (i := 7) rfl)) (hw _ (List.mem_of_getElem? (i := 8) rfl)) (hw _ (List.mem_of_getElem? (i := 6) rfl)) (hw _ (List.mem_of_getElem? (i := 9) rfl)) (by decide) rfl rfl (met_2 _ Z a0 hw h2 n0 X6.size a3 ge4 A8 F11 F10) rfl at_67 rfl own_pd1 rfl rfl 1 (Nat.le_of_eq rfl) (by decide) (by decide) (by decide) (by decide) ?_
  rintro T13 h14 v15 X16 ⟨rfl, B12⟩
  have E17 := B12.1
  replace X16 : own_Sx n0 K T13 h14 2 18 := X16
  show own_Fin n0 K _ T13 70 #[.val (.int u0), .val (.int u1), .val (.int u2), .val (.int u3), .val (.int u4), .val (.int u5), .val (.int (3 : Int32)), .val (.int (0 : Int32)), .val (.int u8), .val (.int u9), .unset, .unset, .unset] [(.ref a3)]
  refine own_astore M X16 (L' := #[.val (.int u0), .val (.int u1), .val (.int u2), .val (.int u3), .val (.int u4), .val (.int u5), .val (.int (3 : Int32)), .val (.int (0 : Int32)), .val (.int u8), .val (.int u9), .val (.ref a3), .unset, .unset]) at_70 rfl rfl rfl ?_
  refine own_iload M X16 at_72 rfl rfl ?_
  refine own_iconst M X16 (v := (1 : Int32)) at_74 rfl rfl ?_
  refine own_icmp_lt M X16 at_75 (by decide) rfl rfl (fun q18 => ?_) (fun q18 => ?_)
  · exact absurd q18 (by decide)
  · skip
    refine own_aload M X16 at_78 rfl rfl rfl ?_
    refine own_iloadN M X16 at_80 rfl rfl ?_
    refine own_callV M X16 (yrm := ({ frames := 0, cells := 0, slots := 0, locals := 0 } : Room)) [(.int u0)] (hw _ (List.mem_of_getElem? (i := 23) rfl)) (hw _ (List.mem_of_getElem? (i := 25) rfl)) (hw _ (List.mem_of_getElem? (i := 24) rfl)) (hw _ (List.mem_of_getElem? (i := 26) rfl)) (hw _ (List.mem_of_getElem? (i := 6) rfl)) (hw _ (List.mem_of_getElem? (i := 27) rfl)) (by decide) E17 (met_5 _ Z a0 hw h14 n0 X16.size a3 u0 [] B12 ge4 (by simp)) rfl at_81 rfl own_pd3 rfl rfl 0 (Nat.le_of_eq rfl) (by decide) (by decide) (by decide) (by decide) ?_
    rintro T20 h21 v22 X23 ⟨rfl, B19⟩
    replace B19 : own_Is Z h21 n0 a3 [u0] := B19
    have E24 := B19.1
    replace X23 : own_Sx n0 K T20 h21 2 18 := X23
    show own_Fin n0 K _ T20 84 #[.val (.int u0), .val (.int u1), .val (.int u2), .val (.int u3), .val (.int u4), .val (.int u5), .val (.int (3 : Int32)), .val (.int (0 : Int32)), .val (.int u8), .val (.int u9), .val (.ref a3), .unset, .unset] []
    refine own_iload M X23 at_84 rfl rfl ?_
    refine own_iconst M X23 (v := (2 : Int32)) at_86 rfl rfl ?_
    refine own_icmp_lt M X23 at_87 (by decide) rfl rfl (fun q25 => ?_) (fun q25 => ?_)
    · exact absurd q25 (by decide)
    · skip
      refine own_aload M X23 at_90 rfl rfl rfl ?_
      refine own_iloadN M X23 at_92 rfl rfl ?_
      refine own_callV M X23 (yrm := ({ frames := 0, cells := 0, slots := 0, locals := 0 } : Room)) [(.int u1)] (hw _ (List.mem_of_getElem? (i := 23) rfl)) (hw _ (List.mem_of_getElem? (i := 25) rfl)) (hw _ (List.mem_of_getElem? (i := 24) rfl)) (hw _ (List.mem_of_getElem? (i := 26) rfl)) (hw _ (List.mem_of_getElem? (i := 6) rfl)) (hw _ (List.mem_of_getElem? (i := 27) rfl)) (by decide) E24 (met_5 _ Z a0 hw h21 n0 X23.size a3 u1 [u0] B19 ge4 (by simp)) rfl at_93 rfl own_pd3 rfl rfl 0 (Nat.le_of_eq rfl) (by decide) (by decide) (by decide) (by decide) ?_
      rintro T27 h28 v29 X30 ⟨rfl, B26⟩
      replace B26 : own_Is Z h28 n0 a3 [u0, u1] := B26
      have E31 := B26.1
      replace X30 : own_Sx n0 K T27 h28 2 18 := X30
      show own_Fin n0 K _ T27 96 #[.val (.int u0), .val (.int u1), .val (.int u2), .val (.int u3), .val (.int u4), .val (.int u5), .val (.int (3 : Int32)), .val (.int (0 : Int32)), .val (.int u8), .val (.int u9), .val (.ref a3), .unset, .unset] []
      refine own_iload M X30 at_96 rfl rfl ?_
      refine own_iconst M X30 (v := (3 : Int32)) at_98 rfl rfl ?_
      refine own_icmp_lt M X30 at_99 (by decide) rfl rfl (fun q32 => ?_) (fun q32 => ?_)
      · exact absurd q32 (by decide)
      · skip
        refine own_aload M X30 at_102 rfl rfl rfl ?_
        refine own_iloadN M X30 at_104 rfl rfl ?_
        refine own_callV M X30 (yrm := ({ frames := 0, cells := 0, slots := 0, locals := 0 } : Room)) [(.int u2)] (hw _ (List.mem_of_getElem? (i := 23) rfl)) (hw _ (List.mem_of_getElem? (i := 25) rfl)) (hw _ (List.mem_of_getElem? (i := 24) rfl)) (hw _ (List.mem_of_getElem? (i := 26) rfl)) (hw _ (List.mem_of_getElem? (i := 6) rfl)) (hw _ (List.mem_of_getElem? (i := 27) rfl)) (by decide) E31 (met_5 _ Z a0 hw h28 n0 X30.size a3 u2 [u0, u1] B26 ge4 (by simp)) rfl at_105 rfl own_pd3 rfl rfl 0 (Nat.le_of_eq rfl) (by decide) (by decide) (by decide) (by decide) ?_
        rintro T34 h35 v36 X37 ⟨rfl, B33⟩
        replace B33 : own_Is Z h35 n0 a3 [u0, u1, u2] := B33
        have E38 := B33.1
        replace X37 : own_Sx n0 K T34 h35 2 18 := X37
        show own_Fin n0 K _ T34 108 #[.val (.int u0), .val (.int u1), .val (.int u2), .val (.int u3), .val (.int u4), .val (.int u5), .val (.int (3 : Int32)), .val (.int (0 : Int32)), .val (.int u8), .val (.int u9), .val (.ref a3), .unset, .unset] []
        refine own_iload M X37 at_108 rfl rfl ?_
        refine own_iconst M X37 (v := (1 : Int32)) at_110 rfl rfl ?_
        refine own_icmp_lt M X37 at_111 (by decide) rfl rfl (fun q39 => ?_) (fun q39 => ?_)
        · skip
          refine own_iload M X37 at_120 rfl rfl ?_
          refine own_iconst M X37 (v := (2 : Int32)) at_122 rfl rfl ?_
          refine own_icmp_lt M X37 at_123 (by decide) rfl rfl (fun q40 => ?_) (fun q40 => ?_)
          · skip
            refine own_iload M X37 at_132 rfl rfl ?_
            refine own_iconst M X37 (v := (3 : Int32)) at_134 rfl rfl ?_
            refine own_icmp_lt M X37 at_135 (by decide) rfl rfl (fun q41 => ?_) (fun q41 => ?_)
            · skip
              refine own_iload M X37 at_144 rfl rfl ?_
              refine own_iload M X37 at_146 rfl rfl ?_
              refine own_isub M X37 at_148 rfl ?_
              show own_Fin n0 K _ T34 149 #[.val (.int u0), .val (.int u1), .val (.int u2), .val (.int u3), .val (.int u4), .val (.int u5), .val (.int (3 : Int32)), .val (.int (0 : Int32)), .val (.int u8), .val (.int u9), .val (.ref a3), .unset, .unset] [(.int (3 : Int32))]
              refine own_istore M X37 (L' := #[.val (.int u0), .val (.int u1), .val (.int u2), .val (.int u3), .val (.int u4), .val (.int u5), .val (.int (3 : Int32)), .val (.int (0 : Int32)), .val (.int u8), .val (.int u9), .val (.ref a3), .val (.int (3 : Int32)), .unset]) at_149 rfl rfl ?_
              refine own_iload M X37 at_151 rfl rfl ?_
              refine own_iconst M X37 (v := (1 : Int32)) at_153 rfl rfl ?_
              refine own_icmp_lt M X37 at_154 (by decide) rfl rfl (fun q42 => ?_) (fun q42 => ?_)
              · exact absurd q42 (by decide)
              · skip
                refine own_iload M X37 at_157 rfl rfl ?_
                refine own_iloadN M X37 at_159 rfl rfl ?_
                refine own_icmp_eq M X37 at_160 (by decide) rfl rfl (fun q43 => ?_) (fun q43 => ?_)
                · skip
                  refine own_iconst M X37 (v := (1 : Int32)) at_187 rfl rfl ?_
                  refine own_goto M X37 at_188 (by decide) rfl ?_
                  refine own_istore M X37 (L' := #[.val (.int u0), .val (.int u1), .val (.int u2), .val (.int u3), .val (.int u4), .val (.int u5), .val (.int (3 : Int32)), .val (.int (0 : Int32)), .val (.int u8), .val (.int u9), .val (.ref a3), .val (.int (3 : Int32)), .val (.int (1 : Int32))]) at_192 rfl rfl ?_
                  refine own_aload M X37 at_194 rfl rfl rfl ?_
                  refine own_iload M X37 at_196 rfl rfl ?_
                  refine own_callVP M X37 (yrm := ({ frames := 0, cells := 0, slots := 0, locals := 0 } : Room)) [(.int u9)] (hw _ (List.mem_of_getElem? (i := 16) rfl)) (hw _ (List.mem_of_getElem? (i := 18) rfl)) (hw _ (List.mem_of_getElem? (i := 17) rfl)) (hw _ (List.mem_of_getElem? (i := 19) rfl)) (hw _ (List.mem_of_getElem? (i := 6) rfl)) (hw _ (List.mem_of_getElem? (i := 20) rfl)) (by decide) E38 (met_4 _ Z a0 hw h35 n0 X37.size a3 u9 [u0, u1, u2] B33 (by simp)) rfl at_198 rfl own_pd2 rfl rfl 0 (Nat.le_of_eq rfl) (by decide) (by decide) rfl rfl ?_
                  intro T44 X45
                  refine own_iload M X45 at_201 rfl rfl ?_
                  refine own_icmp_ne M X45 at_203 (by decide) rfl rfl (fun q46 => ?_) (fun q46 => ?_)
                  · skip
                    refine own_iconst M X45 (v := (0 : Int32)) at_210 rfl rfl ?_
                    exact own_retN M X45 (z' := (0 : Int32)) (by simp) at_211 rfl (by have hP1 := hP h35; rw [T0_63_3_0, if_pos q43, if_neg q46] at hP1; exact hP1)
                  · skip
                    refine own_iconst M X45 (v := (1 : Int32)) at_206 rfl rfl ?_
                    refine own_goto M X45 at_207 (by decide) rfl ?_
                    exact own_retN M X45 (z' := (1 : Int32)) (by simp) at_211 rfl (by have hP1 := hP h35; rw [T0_63_3_0, if_pos q43, if_pos q46] at hP1; exact hP1)
                · skip
                  refine own_iload M X37 at_163 rfl rfl ?_
                  refine own_iconst M X37 (v := (2 : Int32)) at_165 rfl rfl ?_
                  refine own_icmp_lt M X37 at_166 (by decide) rfl rfl (fun q47 => ?_) (fun q47 => ?_)
                  · exact absurd q47 (by decide)
                  · skip
                    refine own_iload M X37 at_169 rfl rfl ?_
                    refine own_iloadN M X37 at_171 rfl rfl ?_
                    refine own_icmp_eq M X37 at_172 (by decide) rfl rfl (fun q48 => ?_) (fun q48 => ?_)
                    · skip
                      refine own_iconst M X37 (v := (1 : Int32)) at_187 rfl rfl ?_
                      refine own_goto M X37 at_188 (by decide) rfl ?_
                      refine own_istore M X37 (L' := #[.val (.int u0), .val (.int u1), .val (.int u2), .val (.int u3), .val (.int u4), .val (.int u5), .val (.int (3 : Int32)), .val (.int (0 : Int32)), .val (.int u8), .val (.int u9), .val (.ref a3), .val (.int (3 : Int32)), .val (.int (1 : Int32))]) at_192 rfl rfl ?_
                      refine own_aload M X37 at_194 rfl rfl rfl ?_
                      refine own_iload M X37 at_196 rfl rfl ?_
                      refine own_callVP M X37 (yrm := ({ frames := 0, cells := 0, slots := 0, locals := 0 } : Room)) [(.int u9)] (hw _ (List.mem_of_getElem? (i := 16) rfl)) (hw _ (List.mem_of_getElem? (i := 18) rfl)) (hw _ (List.mem_of_getElem? (i := 17) rfl)) (hw _ (List.mem_of_getElem? (i := 19) rfl)) (hw _ (List.mem_of_getElem? (i := 6) rfl)) (hw _ (List.mem_of_getElem? (i := 20) rfl)) (by decide) E38 (met_4 _ Z a0 hw h35 n0 X37.size a3 u9 [u0, u1, u2] B33 (by simp)) rfl at_198 rfl own_pd2 rfl rfl 0 (Nat.le_of_eq rfl) (by decide) (by decide) rfl rfl ?_
                      intro T49 X50
                      refine own_iload M X50 at_201 rfl rfl ?_
                      refine own_icmp_ne M X50 at_203 (by decide) rfl rfl (fun q51 => ?_) (fun q51 => ?_)
                      · skip
                        refine own_iconst M X50 (v := (0 : Int32)) at_210 rfl rfl ?_
                        exact own_retN M X50 (z' := (0 : Int32)) (by simp) at_211 rfl (by have hP1 := hP h35; rw [T0_63_3_0, if_neg q43, if_pos q48, if_neg q51] at hP1; exact hP1)
                      · skip
                        refine own_iconst M X50 (v := (1 : Int32)) at_206 rfl rfl ?_
                        refine own_goto M X50 at_207 (by decide) rfl ?_
                        exact own_retN M X50 (z' := (1 : Int32)) (by simp) at_211 rfl (by have hP1 := hP h35; rw [T0_63_3_0, if_neg q43, if_pos q48, if_pos q51] at hP1; exact hP1)
                    · skip
                      refine own_iload M X37 at_175 rfl rfl ?_
                      refine own_iconst M X37 (v := (3 : Int32)) at_177 rfl rfl ?_
                      refine own_icmp_lt M X37 at_178 (by decide) rfl rfl (fun q52 => ?_) (fun q52 => ?_)
                      · exact absurd q52 (by decide)
                      · skip
                        refine own_iload M X37 at_181 rfl rfl ?_
                        refine own_iloadN M X37 at_183 rfl rfl ?_
                        refine own_icmp_ne M X37 at_184 (by decide) rfl rfl (fun q53 => ?_) (fun q53 => ?_)
                        · skip
                          refine own_iconst M X37 (v := (0 : Int32)) at_191 rfl rfl ?_
                          refine own_istore M X37 (L' := #[.val (.int u0), .val (.int u1), .val (.int u2), .val (.int u3), .val (.int u4), .val (.int u5), .val (.int (3 : Int32)), .val (.int (0 : Int32)), .val (.int u8), .val (.int u9), .val (.ref a3), .val (.int (3 : Int32)), .val (.int (0 : Int32))]) at_192 rfl rfl ?_
                          refine own_aload M X37 at_194 rfl rfl rfl ?_
                          refine own_iload M X37 at_196 rfl rfl ?_
                          refine own_callVP M X37 (yrm := ({ frames := 0, cells := 0, slots := 0, locals := 0 } : Room)) [(.int u9)] (hw _ (List.mem_of_getElem? (i := 16) rfl)) (hw _ (List.mem_of_getElem? (i := 18) rfl)) (hw _ (List.mem_of_getElem? (i := 17) rfl)) (hw _ (List.mem_of_getElem? (i := 19) rfl)) (hw _ (List.mem_of_getElem? (i := 6) rfl)) (hw _ (List.mem_of_getElem? (i := 20) rfl)) (by decide) E38 (met_4 _ Z a0 hw h35 n0 X37.size a3 u9 [u0, u1, u2] B33 (by simp)) rfl at_198 rfl own_pd2 rfl rfl 0 (Nat.le_of_eq rfl) (by decide) (by decide) rfl rfl ?_
                          intro T54 X55
                          refine own_iload M X55 at_201 rfl rfl ?_
                          refine own_icmp_ne M X55 at_203 (by decide) rfl rfl (fun q56 => ?_) (fun q56 => ?_)
                          · skip
                            refine own_iconst M X55 (v := (0 : Int32)) at_210 rfl rfl ?_
                            exact own_retN M X55 (z' := (0 : Int32)) (by simp) at_211 rfl (by have hP1 := hP h35; rw [T0_63_3_0, if_neg q43, if_neg q48, if_neg q53, if_neg q56] at hP1; exact hP1)
                          · skip
                            refine own_iconst M X55 (v := (1 : Int32)) at_206 rfl rfl ?_
                            refine own_goto M X55 at_207 (by decide) rfl ?_
                            exact own_retN M X55 (z' := (1 : Int32)) (by simp) at_211 rfl (by have hP1 := hP h35; rw [T0_63_3_0, if_neg q43, if_neg q48, if_neg q53, if_pos q56] at hP1; exact hP1)
                        · skip
                          refine own_iconst M X37 (v := (1 : Int32)) at_187 rfl rfl ?_
                          refine own_goto M X37 at_188 (by decide) rfl ?_
                          refine own_istore M X37 (L' := #[.val (.int u0), .val (.int u1), .val (.int u2), .val (.int u3), .val (.int u4), .val (.int u5), .val (.int (3 : Int32)), .val (.int (0 : Int32)), .val (.int u8), .val (.int u9), .val (.ref a3), .val (.int (3 : Int32)), .val (.int (1 : Int32))]) at_192 rfl rfl ?_
                          refine own_aload M X37 at_194 rfl rfl rfl ?_
                          refine own_iload M X37 at_196 rfl rfl ?_
                          refine own_callVP M X37 (yrm := ({ frames := 0, cells := 0, slots := 0, locals := 0 } : Room)) [(.int u9)] (hw _ (List.mem_of_getElem? (i := 16) rfl)) (hw _ (List.mem_of_getElem? (i := 18) rfl)) (hw _ (List.mem_of_getElem? (i := 17) rfl)) (hw _ (List.mem_of_getElem? (i := 19) rfl)) (hw _ (List.mem_of_getElem? (i := 6) rfl)) (hw _ (List.mem_of_getElem? (i := 20) rfl)) (by decide) E38 (met_4 _ Z a0 hw h35 n0 X37.size a3 u9 [u0, u1, u2] B33 (by simp)) rfl at_198 rfl own_pd2 rfl rfl 0 (Nat.le_of_eq rfl) (by decide) (by decide) rfl rfl ?_
                          intro T57 X58
                          refine own_iload M X58 at_201 rfl rfl ?_
                          refine own_icmp_ne M X58 at_203 (by decide) rfl rfl (fun q59 => ?_) (fun q59 => ?_)
                          · skip
                            refine own_iconst M X58 (v := (0 : Int32)) at_210 rfl rfl ?_
                            exact own_retN M X58 (z' := (0 : Int32)) (by simp) at_211 rfl (by have hP1 := hP h35; rw [T0_63_3_0, if_neg q43, if_neg q48, if_pos q53, if_neg q59] at hP1; exact hP1)
                          · skip
                            refine own_iconst M X58 (v := (1 : Int32)) at_206 rfl rfl ?_
                            refine own_goto M X58 at_207 (by decide) rfl ?_
                            exact own_retN M X58 (z' := (1 : Int32)) (by simp) at_211 rfl (by have hP1 := hP h35; rw [T0_63_3_0, if_neg q43, if_neg q48, if_pos q53, if_pos q59] at hP1; exact hP1)
            · exact absurd (by decide) q41
          · exact absurd (by decide) q40
        · exact absurd (by decide) q39
def T0_63_3_1 (u0 : Int32) (u1 : Int32) (u9 : Int32) : Int32 := (if u9 = u0 then (if (own_ct [u0, u1] u9) = (1 : Int32) then (1 : Int32) else (0 : Int32)) else (if u9 = u1 then (if (own_ct [u0, u1] u9) = (1 : Int32) then (1 : Int32) else (0 : Int32)) else (if (own_ct [u0, u1] u9) = (0 : Int32) then (1 : Int32) else (0 : Int32))))
set_option maxRecDepth 65536 in
set_option maxHeartbeats 40000000 in
theorem tl0_63_3_1 (l : Launch) (Z : State) (a0 : Array Value) (hw : ∀ d ∈ tables_1, d.before a0 Z = true) {n0 : Nat} {K : own_Cx} {P : Option Value → Heap → Prop} {T : State} {h : Heap} (M : own_Mx Z a0 K code "com/example/mangrove/mangrove/reasoner/IntStackContainsPinLaw" maxLocals ret room_1) (X : own_Sx n0 K T h 0 0) (u0 u1 u2 u3 u4 u5 u6 u7 u8 u9 : Int32) (e6 : u6 = 3) (e7 : u7 = 1)
    (hP : ∀ hh, P (some (.int (T0_63_3_1 u0 u1 u9))) hh) : own_Fin n0 K P T 63 #[.val (.int u0), .val (.int u1), .val (.int u2), .val (.int u3), .val (.int u4), .val (.int u5), .val (.int u6), .val (.int u7), .val (.int u8), .val (.int u9), .unset, .unset, .unset] [] := by
  subst e6 e7
  refine own_new M X (hw _ (List.mem_of_getElem? (i := 4) rfl)) (hw _ (List.mem_of_getElem? (i := 5) rfl)) (hw _ (List.mem_of_getElem? (i := 6) rfl)) at_63 rfl (by decide) (by decide) ?_
  intro T1 h2 a3 ge4 gs5 X6 E7 A8 D9
  have F10 : Fld Z h2 a3 "com/example/mangrove/mangrove/reasoner/IntStack" "values" "[I" .null := D9 (Or.inl (hw _ (List.mem_of_getElem? (i := 15) rfl))) (ty := (.array .int)) (by decide)
  have F11 : Fld Z h2 a3 "com/example/mangrove/mangrove/reasoner/IntStack" "size" "I" (.int (0 : Int32)) := D9 (Or.inl (hw _ (List.mem_of_getElem? (i := 22) rfl))) (ty := .int) (by decide)
  refine own_dup M X6 at_66 rfl rfl ?_
  refine own_callN M X6 (yrm := ({ frames := 1, cells := 1, slots := 16, locals := 12 } : Room)) [] (hw _ (List.mem_of_getElem? (i := 7) rfl)) (hw _ (List.mem_of_getElem? (i := 8) rfl)) (hw _ (List.mem_of_getElem? (i := 6) rfl)) (hw _ (List.mem_of_getElem? (i := 9) rfl)) (by decide) rfl rfl (met_2 _ Z a0 hw h2 n0 X6.size a3 ge4 A8 F11 F10) rfl at_67 rfl own_pd1 rfl rfl 1 (Nat.le_of_eq rfl) (by decide) (by decide) (by decide) (by decide) ?_
  rintro T13 h14 v15 X16 ⟨rfl, B12⟩
  have E17 := B12.1
  replace X16 : own_Sx n0 K T13 h14 2 18 := X16
  show own_Fin n0 K _ T13 70 #[.val (.int u0), .val (.int u1), .val (.int u2), .val (.int u3), .val (.int u4), .val (.int u5), .val (.int (3 : Int32)), .val (.int (1 : Int32)), .val (.int u8), .val (.int u9), .unset, .unset, .unset] [(.ref a3)]
  refine own_astore M X16 (L' := #[.val (.int u0), .val (.int u1), .val (.int u2), .val (.int u3), .val (.int u4), .val (.int u5), .val (.int (3 : Int32)), .val (.int (1 : Int32)), .val (.int u8), .val (.int u9), .val (.ref a3), .unset, .unset]) at_70 rfl rfl rfl ?_
  refine own_iload M X16 at_72 rfl rfl ?_
  refine own_iconst M X16 (v := (1 : Int32)) at_74 rfl rfl ?_
  refine own_icmp_lt M X16 at_75 (by decide) rfl rfl (fun q18 => ?_) (fun q18 => ?_)
  · exact absurd q18 (by decide)
  · skip
    refine own_aload M X16 at_78 rfl rfl rfl ?_
    refine own_iloadN M X16 at_80 rfl rfl ?_
    refine own_callV M X16 (yrm := ({ frames := 0, cells := 0, slots := 0, locals := 0 } : Room)) [(.int u0)] (hw _ (List.mem_of_getElem? (i := 23) rfl)) (hw _ (List.mem_of_getElem? (i := 25) rfl)) (hw _ (List.mem_of_getElem? (i := 24) rfl)) (hw _ (List.mem_of_getElem? (i := 26) rfl)) (hw _ (List.mem_of_getElem? (i := 6) rfl)) (hw _ (List.mem_of_getElem? (i := 27) rfl)) (by decide) E17 (met_5 _ Z a0 hw h14 n0 X16.size a3 u0 [] B12 ge4 (by simp)) rfl at_81 rfl own_pd3 rfl rfl 0 (Nat.le_of_eq rfl) (by decide) (by decide) (by decide) (by decide) ?_
    rintro T20 h21 v22 X23 ⟨rfl, B19⟩
    replace B19 : own_Is Z h21 n0 a3 [u0] := B19
    have E24 := B19.1
    replace X23 : own_Sx n0 K T20 h21 2 18 := X23
    show own_Fin n0 K _ T20 84 #[.val (.int u0), .val (.int u1), .val (.int u2), .val (.int u3), .val (.int u4), .val (.int u5), .val (.int (3 : Int32)), .val (.int (1 : Int32)), .val (.int u8), .val (.int u9), .val (.ref a3), .unset, .unset] []
    refine own_iload M X23 at_84 rfl rfl ?_
    refine own_iconst M X23 (v := (2 : Int32)) at_86 rfl rfl ?_
    refine own_icmp_lt M X23 at_87 (by decide) rfl rfl (fun q25 => ?_) (fun q25 => ?_)
    · exact absurd q25 (by decide)
    · skip
      refine own_aload M X23 at_90 rfl rfl rfl ?_
      refine own_iloadN M X23 at_92 rfl rfl ?_
      refine own_callV M X23 (yrm := ({ frames := 0, cells := 0, slots := 0, locals := 0 } : Room)) [(.int u1)] (hw _ (List.mem_of_getElem? (i := 23) rfl)) (hw _ (List.mem_of_getElem? (i := 25) rfl)) (hw _ (List.mem_of_getElem? (i := 24) rfl)) (hw _ (List.mem_of_getElem? (i := 26) rfl)) (hw _ (List.mem_of_getElem? (i := 6) rfl)) (hw _ (List.mem_of_getElem? (i := 27) rfl)) (by decide) E24 (met_5 _ Z a0 hw h21 n0 X23.size a3 u1 [u0] B19 ge4 (by simp)) rfl at_93 rfl own_pd3 rfl rfl 0 (Nat.le_of_eq rfl) (by decide) (by decide) (by decide) (by decide) ?_
      rintro T27 h28 v29 X30 ⟨rfl, B26⟩
      replace B26 : own_Is Z h28 n0 a3 [u0, u1] := B26
      have E31 := B26.1
      replace X30 : own_Sx n0 K T27 h28 2 18 := X30
      show own_Fin n0 K _ T27 96 #[.val (.int u0), .val (.int u1), .val (.int u2), .val (.int u3), .val (.int u4), .val (.int u5), .val (.int (3 : Int32)), .val (.int (1 : Int32)), .val (.int u8), .val (.int u9), .val (.ref a3), .unset, .unset] []
      refine own_iload M X30 at_96 rfl rfl ?_
      refine own_iconst M X30 (v := (3 : Int32)) at_98 rfl rfl ?_
      refine own_icmp_lt M X30 at_99 (by decide) rfl rfl (fun q32 => ?_) (fun q32 => ?_)
      · exact absurd q32 (by decide)
      · skip
        refine own_aload M X30 at_102 rfl rfl rfl ?_
        refine own_iloadN M X30 at_104 rfl rfl ?_
        refine own_callV M X30 (yrm := ({ frames := 0, cells := 0, slots := 0, locals := 0 } : Room)) [(.int u2)] (hw _ (List.mem_of_getElem? (i := 23) rfl)) (hw _ (List.mem_of_getElem? (i := 25) rfl)) (hw _ (List.mem_of_getElem? (i := 24) rfl)) (hw _ (List.mem_of_getElem? (i := 26) rfl)) (hw _ (List.mem_of_getElem? (i := 6) rfl)) (hw _ (List.mem_of_getElem? (i := 27) rfl)) (by decide) E31 (met_5 _ Z a0 hw h28 n0 X30.size a3 u2 [u0, u1] B26 ge4 (by simp)) rfl at_105 rfl own_pd3 rfl rfl 0 (Nat.le_of_eq rfl) (by decide) (by decide) (by decide) (by decide) ?_
        rintro T34 h35 v36 X37 ⟨rfl, B33⟩
        replace B33 : own_Is Z h35 n0 a3 [u0, u1, u2] := B33
        have E38 := B33.1
        replace X37 : own_Sx n0 K T34 h35 2 18 := X37
        show own_Fin n0 K _ T34 108 #[.val (.int u0), .val (.int u1), .val (.int u2), .val (.int u3), .val (.int u4), .val (.int u5), .val (.int (3 : Int32)), .val (.int (1 : Int32)), .val (.int u8), .val (.int u9), .val (.ref a3), .unset, .unset] []
        refine own_iload M X37 at_108 rfl rfl ?_
        refine own_iconst M X37 (v := (1 : Int32)) at_110 rfl rfl ?_
        refine own_icmp_lt M X37 at_111 (by decide) rfl rfl (fun q39 => ?_) (fun q39 => ?_)
        · exact absurd q39 (by decide)
        · skip
          refine own_aload M X37 at_114 rfl rfl rfl ?_
          refine own_callV M X37 (yrm := ({ frames := 0, cells := 0, slots := 0, locals := 0 } : Room)) [] (hw _ (List.mem_of_getElem? (i := 28) rfl)) (hw _ (List.mem_of_getElem? (i := 30) rfl)) (hw _ (List.mem_of_getElem? (i := 29) rfl)) (hw _ (List.mem_of_getElem? (i := 31) rfl)) (hw _ (List.mem_of_getElem? (i := 6) rfl)) (hw _ (List.mem_of_getElem? (i := 32) rfl)) (by decide) E38 (met_6 _ Z a0 hw h35 n0 X37.size a3 [u0, u1] u2 B33 ge4 (by simp)) rfl at_116 rfl own_pd4 rfl rfl 0 (Nat.le_of_eq rfl) (by decide) (by decide) (by decide) (by decide) ?_
          rintro T41 h42 v43 X44 ⟨rfl, B40⟩
          have E45 := B40.1
          replace X44 : own_Sx n0 K T41 h42 2 18 := X44
          show own_Fin n0 K _ T41 119 #[.val (.int u0), .val (.int u1), .val (.int u2), .val (.int u3), .val (.int u4), .val (.int u5), .val (.int (3 : Int32)), .val (.int (1 : Int32)), .val (.int u8), .val (.int u9), .val (.ref a3), .unset, .unset] [(.int u2)]
          refine own_pop M X44 at_119 rfl rfl ?_
          refine own_iload M X44 at_120 rfl rfl ?_
          refine own_iconst M X44 (v := (2 : Int32)) at_122 rfl rfl ?_
          refine own_icmp_lt M X44 at_123 (by decide) rfl rfl (fun q46 => ?_) (fun q46 => ?_)
          · skip
            refine own_iload M X44 at_132 rfl rfl ?_
            refine own_iconst M X44 (v := (3 : Int32)) at_134 rfl rfl ?_
            refine own_icmp_lt M X44 at_135 (by decide) rfl rfl (fun q47 => ?_) (fun q47 => ?_)
            · skip
              refine own_iload M X44 at_144 rfl rfl ?_
              refine own_iload M X44 at_146 rfl rfl ?_
              refine own_isub M X44 at_148 rfl ?_
              show own_Fin n0 K _ T41 149 #[.val (.int u0), .val (.int u1), .val (.int u2), .val (.int u3), .val (.int u4), .val (.int u5), .val (.int (3 : Int32)), .val (.int (1 : Int32)), .val (.int u8), .val (.int u9), .val (.ref a3), .unset, .unset] [(.int (2 : Int32))]
              refine own_istore M X44 (L' := #[.val (.int u0), .val (.int u1), .val (.int u2), .val (.int u3), .val (.int u4), .val (.int u5), .val (.int (3 : Int32)), .val (.int (1 : Int32)), .val (.int u8), .val (.int u9), .val (.ref a3), .val (.int (2 : Int32)), .unset]) at_149 rfl rfl ?_
              refine own_iload M X44 at_151 rfl rfl ?_
              refine own_iconst M X44 (v := (1 : Int32)) at_153 rfl rfl ?_
              refine own_icmp_lt M X44 at_154 (by decide) rfl rfl (fun q48 => ?_) (fun q48 => ?_)
              · exact absurd q48 (by decide)
              · skip
                refine own_iload M X44 at_157 rfl rfl ?_
                refine own_iloadN M X44 at_159 rfl rfl ?_
                refine own_icmp_eq M X44 at_160 (by decide) rfl rfl (fun q49 => ?_) (fun q49 => ?_)
                · skip
                  refine own_iconst M X44 (v := (1 : Int32)) at_187 rfl rfl ?_
                  refine own_goto M X44 at_188 (by decide) rfl ?_
                  refine own_istore M X44 (L' := #[.val (.int u0), .val (.int u1), .val (.int u2), .val (.int u3), .val (.int u4), .val (.int u5), .val (.int (3 : Int32)), .val (.int (1 : Int32)), .val (.int u8), .val (.int u9), .val (.ref a3), .val (.int (2 : Int32)), .val (.int (1 : Int32))]) at_192 rfl rfl ?_
                  refine own_aload M X44 at_194 rfl rfl rfl ?_
                  refine own_iload M X44 at_196 rfl rfl ?_
                  refine own_callVP M X44 (yrm := ({ frames := 0, cells := 0, slots := 0, locals := 0 } : Room)) [(.int u9)] (hw _ (List.mem_of_getElem? (i := 16) rfl)) (hw _ (List.mem_of_getElem? (i := 18) rfl)) (hw _ (List.mem_of_getElem? (i := 17) rfl)) (hw _ (List.mem_of_getElem? (i := 19) rfl)) (hw _ (List.mem_of_getElem? (i := 6) rfl)) (hw _ (List.mem_of_getElem? (i := 20) rfl)) (by decide) E45 (met_4 _ Z a0 hw h42 n0 X44.size a3 u9 [u0, u1] B40 (by simp)) rfl at_198 rfl own_pd2 rfl rfl 0 (Nat.le_of_eq rfl) (by decide) (by decide) rfl rfl ?_
                  intro T50 X51
                  refine own_iload M X51 at_201 rfl rfl ?_
                  refine own_icmp_ne M X51 at_203 (by decide) rfl rfl (fun q52 => ?_) (fun q52 => ?_)
                  · skip
                    refine own_iconst M X51 (v := (0 : Int32)) at_210 rfl rfl ?_
                    exact own_retN M X51 (z' := (0 : Int32)) (by simp) at_211 rfl (by have hP1 := hP h42; rw [T0_63_3_1, if_pos q49, if_neg q52] at hP1; exact hP1)
                  · skip
                    refine own_iconst M X51 (v := (1 : Int32)) at_206 rfl rfl ?_
                    refine own_goto M X51 at_207 (by decide) rfl ?_
                    exact own_retN M X51 (z' := (1 : Int32)) (by simp) at_211 rfl (by have hP1 := hP h42; rw [T0_63_3_1, if_pos q49, if_pos q52] at hP1; exact hP1)
                · skip
                  refine own_iload M X44 at_163 rfl rfl ?_
                  refine own_iconst M X44 (v := (2 : Int32)) at_165 rfl rfl ?_
                  refine own_icmp_lt M X44 at_166 (by decide) rfl rfl (fun q53 => ?_) (fun q53 => ?_)
                  · exact absurd q53 (by decide)
                  · skip
                    refine own_iload M X44 at_169 rfl rfl ?_
                    refine own_iloadN M X44 at_171 rfl rfl ?_
                    refine own_icmp_eq M X44 at_172 (by decide) rfl rfl (fun q54 => ?_) (fun q54 => ?_)
                    · skip
                      refine own_iconst M X44 (v := (1 : Int32)) at_187 rfl rfl ?_
                      refine own_goto M X44 at_188 (by decide) rfl ?_
                      refine own_istore M X44 (L' := #[.val (.int u0), .val (.int u1), .val (.int u2), .val (.int u3), .val (.int u4), .val (.int u5), .val (.int (3 : Int32)), .val (.int (1 : Int32)), .val (.int u8), .val (.int u9), .val (.ref a3), .val (.int (2 : Int32)), .val (.int (1 : Int32))]) at_192 rfl rfl ?_
                      refine own_aload M X44 at_194 rfl rfl rfl ?_
                      refine own_iload M X44 at_196 rfl rfl ?_
                      refine own_callVP M X44 (yrm := ({ frames := 0, cells := 0, slots := 0, locals := 0 } : Room)) [(.int u9)] (hw _ (List.mem_of_getElem? (i := 16) rfl)) (hw _ (List.mem_of_getElem? (i := 18) rfl)) (hw _ (List.mem_of_getElem? (i := 17) rfl)) (hw _ (List.mem_of_getElem? (i := 19) rfl)) (hw _ (List.mem_of_getElem? (i := 6) rfl)) (hw _ (List.mem_of_getElem? (i := 20) rfl)) (by decide) E45 (met_4 _ Z a0 hw h42 n0 X44.size a3 u9 [u0, u1] B40 (by simp)) rfl at_198 rfl own_pd2 rfl rfl 0 (Nat.le_of_eq rfl) (by decide) (by decide) rfl rfl ?_
                      intro T55 X56
                      refine own_iload M X56 at_201 rfl rfl ?_
                      refine own_icmp_ne M X56 at_203 (by decide) rfl rfl (fun q57 => ?_) (fun q57 => ?_)
                      · skip
                        refine own_iconst M X56 (v := (0 : Int32)) at_210 rfl rfl ?_
                        exact own_retN M X56 (z' := (0 : Int32)) (by simp) at_211 rfl (by have hP1 := hP h42; rw [T0_63_3_1, if_neg q49, if_pos q54, if_neg q57] at hP1; exact hP1)
                      · skip
                        refine own_iconst M X56 (v := (1 : Int32)) at_206 rfl rfl ?_
                        refine own_goto M X56 at_207 (by decide) rfl ?_
                        exact own_retN M X56 (z' := (1 : Int32)) (by simp) at_211 rfl (by have hP1 := hP h42; rw [T0_63_3_1, if_neg q49, if_pos q54, if_pos q57] at hP1; exact hP1)
                    · skip
                      refine own_iload M X44 at_175 rfl rfl ?_
                      refine own_iconst M X44 (v := (3 : Int32)) at_177 rfl rfl ?_
                      refine own_icmp_lt M X44 at_178 (by decide) rfl rfl (fun q58 => ?_) (fun q58 => ?_)
                      · skip
                        refine own_iconst M X44 (v := (0 : Int32)) at_191 rfl rfl ?_
                        refine own_istore M X44 (L' := #[.val (.int u0), .val (.int u1), .val (.int u2), .val (.int u3), .val (.int u4), .val (.int u5), .val (.int (3 : Int32)), .val (.int (1 : Int32)), .val (.int u8), .val (.int u9), .val (.ref a3), .val (.int (2 : Int32)), .val (.int (0 : Int32))]) at_192 rfl rfl ?_
                        refine own_aload M X44 at_194 rfl rfl rfl ?_
                        refine own_iload M X44 at_196 rfl rfl ?_
                        refine own_callVP M X44 (yrm := ({ frames := 0, cells := 0, slots := 0, locals := 0 } : Room)) [(.int u9)] (hw _ (List.mem_of_getElem? (i := 16) rfl)) (hw _ (List.mem_of_getElem? (i := 18) rfl)) (hw _ (List.mem_of_getElem? (i := 17) rfl)) (hw _ (List.mem_of_getElem? (i := 19) rfl)) (hw _ (List.mem_of_getElem? (i := 6) rfl)) (hw _ (List.mem_of_getElem? (i := 20) rfl)) (by decide) E45 (met_4 _ Z a0 hw h42 n0 X44.size a3 u9 [u0, u1] B40 (by simp)) rfl at_198 rfl own_pd2 rfl rfl 0 (Nat.le_of_eq rfl) (by decide) (by decide) rfl rfl ?_
                        intro T59 X60
                        refine own_iload M X60 at_201 rfl rfl ?_
                        refine own_icmp_ne M X60 at_203 (by decide) rfl rfl (fun q61 => ?_) (fun q61 => ?_)
                        · skip
                          refine own_iconst M X60 (v := (0 : Int32)) at_210 rfl rfl ?_
                          exact own_retN M X60 (z' := (0 : Int32)) (by simp) at_211 rfl (by have hP1 := hP h42; rw [T0_63_3_1, if_neg q49, if_neg q54, if_neg q61] at hP1; exact hP1)
                        · skip
                          refine own_iconst M X60 (v := (1 : Int32)) at_206 rfl rfl ?_
                          refine own_goto M X60 at_207 (by decide) rfl ?_
                          exact own_retN M X60 (z' := (1 : Int32)) (by simp) at_211 rfl (by have hP1 := hP h42; rw [T0_63_3_1, if_neg q49, if_neg q54, if_pos q61] at hP1; exact hP1)
                      · exact absurd (by decide) q58
            · exact absurd (by decide) q47
          · exact absurd (by decide) q46
def T0_63_3_2 (u0 : Int32) (u9 : Int32) : Int32 := (if u9 = u0 then (if (own_ct [u0] u9) = (1 : Int32) then (1 : Int32) else (0 : Int32)) else (if (own_ct [u0] u9) = (0 : Int32) then (1 : Int32) else (0 : Int32)))
set_option maxRecDepth 65536 in
set_option maxHeartbeats 40000000 in
theorem tl0_63_3_2 (l : Launch) (Z : State) (a0 : Array Value) (hw : ∀ d ∈ tables_1, d.before a0 Z = true) {n0 : Nat} {K : own_Cx} {P : Option Value → Heap → Prop} {T : State} {h : Heap} (M : own_Mx Z a0 K code "com/example/mangrove/mangrove/reasoner/IntStackContainsPinLaw" maxLocals ret room_1) (X : own_Sx n0 K T h 0 0) (u0 u1 u2 u3 u4 u5 u6 u7 u8 u9 : Int32) (e6 : u6 = 3) (e7 : u7 = 2)
    (hP : ∀ hh, P (some (.int (T0_63_3_2 u0 u9))) hh) : own_Fin n0 K P T 63 #[.val (.int u0), .val (.int u1), .val (.int u2), .val (.int u3), .val (.int u4), .val (.int u5), .val (.int u6), .val (.int u7), .val (.int u8), .val (.int u9), .unset, .unset, .unset] [] := by
  subst e6 e7
  refine own_new M X (hw _ (List.mem_of_getElem? (i := 4) rfl)) (hw _ (List.mem_of_getElem? (i := 5) rfl)) (hw _ (List.mem_of_getElem? (i := 6) rfl)) at_63 rfl (by decide) (by decide) ?_
  intro T1 h2 a3 ge4 gs5 X6 E7 A8 D9
  have F10 : Fld Z h2 a3 "com/example/mangrove/mangrove/reasoner/IntStack" "values" "[I" .null := D9 (Or.inl (hw _ (List.mem_of_getElem? (i := 15) rfl))) (ty := (.array .int)) (by decide)
  have F11 : Fld Z h2 a3 "com/example/mangrove/mangrove/reasoner/IntStack" "size" "I" (.int (0 : Int32)) := D9 (Or.inl (hw _ (List.mem_of_getElem? (i := 22) rfl))) (ty := .int) (by decide)
  refine own_dup M X6 at_66 rfl rfl ?_
  refine own_callN M X6 (yrm := ({ frames := 1, cells := 1, slots := 16, locals := 12 } : Room)) [] (hw _ (List.mem_of_getElem? (i := 7) rfl)) (hw _ (List.mem_of_getElem? (i := 8) rfl)) (hw _ (List.mem_of_getElem? (i := 6) rfl)) (hw _ (List.mem_of_getElem? (i := 9) rfl)) (by decide) rfl rfl (met_2 _ Z a0 hw h2 n0 X6.size a3 ge4 A8 F11 F10) rfl at_67 rfl own_pd1 rfl rfl 1 (Nat.le_of_eq rfl) (by decide) (by decide) (by decide) (by decide) ?_
  rintro T13 h14 v15 X16 ⟨rfl, B12⟩
  have E17 := B12.1
  replace X16 : own_Sx n0 K T13 h14 2 18 := X16
  show own_Fin n0 K _ T13 70 #[.val (.int u0), .val (.int u1), .val (.int u2), .val (.int u3), .val (.int u4), .val (.int u5), .val (.int (3 : Int32)), .val (.int (2 : Int32)), .val (.int u8), .val (.int u9), .unset, .unset, .unset] [(.ref a3)]
  refine own_astore M X16 (L' := #[.val (.int u0), .val (.int u1), .val (.int u2), .val (.int u3), .val (.int u4), .val (.int u5), .val (.int (3 : Int32)), .val (.int (2 : Int32)), .val (.int u8), .val (.int u9), .val (.ref a3), .unset, .unset]) at_70 rfl rfl rfl ?_
  refine own_iload M X16 at_72 rfl rfl ?_
  refine own_iconst M X16 (v := (1 : Int32)) at_74 rfl rfl ?_
  refine own_icmp_lt M X16 at_75 (by decide) rfl rfl (fun q18 => ?_) (fun q18 => ?_)
  · exact absurd q18 (by decide)
  · skip
    refine own_aload M X16 at_78 rfl rfl rfl ?_
    refine own_iloadN M X16 at_80 rfl rfl ?_
    refine own_callV M X16 (yrm := ({ frames := 0, cells := 0, slots := 0, locals := 0 } : Room)) [(.int u0)] (hw _ (List.mem_of_getElem? (i := 23) rfl)) (hw _ (List.mem_of_getElem? (i := 25) rfl)) (hw _ (List.mem_of_getElem? (i := 24) rfl)) (hw _ (List.mem_of_getElem? (i := 26) rfl)) (hw _ (List.mem_of_getElem? (i := 6) rfl)) (hw _ (List.mem_of_getElem? (i := 27) rfl)) (by decide) E17 (met_5 _ Z a0 hw h14 n0 X16.size a3 u0 [] B12 ge4 (by simp)) rfl at_81 rfl own_pd3 rfl rfl 0 (Nat.le_of_eq rfl) (by decide) (by decide) (by decide) (by decide) ?_
    rintro T20 h21 v22 X23 ⟨rfl, B19⟩
    replace B19 : own_Is Z h21 n0 a3 [u0] := B19
    have E24 := B19.1
    replace X23 : own_Sx n0 K T20 h21 2 18 := X23
    show own_Fin n0 K _ T20 84 #[.val (.int u0), .val (.int u1), .val (.int u2), .val (.int u3), .val (.int u4), .val (.int u5), .val (.int (3 : Int32)), .val (.int (2 : Int32)), .val (.int u8), .val (.int u9), .val (.ref a3), .unset, .unset] []
    refine own_iload M X23 at_84 rfl rfl ?_
    refine own_iconst M X23 (v := (2 : Int32)) at_86 rfl rfl ?_
    refine own_icmp_lt M X23 at_87 (by decide) rfl rfl (fun q25 => ?_) (fun q25 => ?_)
    · exact absurd q25 (by decide)
    · skip
      refine own_aload M X23 at_90 rfl rfl rfl ?_
      refine own_iloadN M X23 at_92 rfl rfl ?_
      refine own_callV M X23 (yrm := ({ frames := 0, cells := 0, slots := 0, locals := 0 } : Room)) [(.int u1)] (hw _ (List.mem_of_getElem? (i := 23) rfl)) (hw _ (List.mem_of_getElem? (i := 25) rfl)) (hw _ (List.mem_of_getElem? (i := 24) rfl)) (hw _ (List.mem_of_getElem? (i := 26) rfl)) (hw _ (List.mem_of_getElem? (i := 6) rfl)) (hw _ (List.mem_of_getElem? (i := 27) rfl)) (by decide) E24 (met_5 _ Z a0 hw h21 n0 X23.size a3 u1 [u0] B19 ge4 (by simp)) rfl at_93 rfl own_pd3 rfl rfl 0 (Nat.le_of_eq rfl) (by decide) (by decide) (by decide) (by decide) ?_
      rintro T27 h28 v29 X30 ⟨rfl, B26⟩
      replace B26 : own_Is Z h28 n0 a3 [u0, u1] := B26
      have E31 := B26.1
      replace X30 : own_Sx n0 K T27 h28 2 18 := X30
      show own_Fin n0 K _ T27 96 #[.val (.int u0), .val (.int u1), .val (.int u2), .val (.int u3), .val (.int u4), .val (.int u5), .val (.int (3 : Int32)), .val (.int (2 : Int32)), .val (.int u8), .val (.int u9), .val (.ref a3), .unset, .unset] []
      refine own_iload M X30 at_96 rfl rfl ?_
      refine own_iconst M X30 (v := (3 : Int32)) at_98 rfl rfl ?_
      refine own_icmp_lt M X30 at_99 (by decide) rfl rfl (fun q32 => ?_) (fun q32 => ?_)
      · exact absurd q32 (by decide)
      · skip
        refine own_aload M X30 at_102 rfl rfl rfl ?_
        refine own_iloadN M X30 at_104 rfl rfl ?_
        refine own_callV M X30 (yrm := ({ frames := 0, cells := 0, slots := 0, locals := 0 } : Room)) [(.int u2)] (hw _ (List.mem_of_getElem? (i := 23) rfl)) (hw _ (List.mem_of_getElem? (i := 25) rfl)) (hw _ (List.mem_of_getElem? (i := 24) rfl)) (hw _ (List.mem_of_getElem? (i := 26) rfl)) (hw _ (List.mem_of_getElem? (i := 6) rfl)) (hw _ (List.mem_of_getElem? (i := 27) rfl)) (by decide) E31 (met_5 _ Z a0 hw h28 n0 X30.size a3 u2 [u0, u1] B26 ge4 (by simp)) rfl at_105 rfl own_pd3 rfl rfl 0 (Nat.le_of_eq rfl) (by decide) (by decide) (by decide) (by decide) ?_
        rintro T34 h35 v36 X37 ⟨rfl, B33⟩
        replace B33 : own_Is Z h35 n0 a3 [u0, u1, u2] := B33
        have E38 := B33.1
        replace X37 : own_Sx n0 K T34 h35 2 18 := X37
        show own_Fin n0 K _ T34 108 #[.val (.int u0), .val (.int u1), .val (.int u2), .val (.int u3), .val (.int u4), .val (.int u5), .val (.int (3 : Int32)), .val (.int (2 : Int32)), .val (.int u8), .val (.int u9), .val (.ref a3), .unset, .unset] []
        refine own_iload M X37 at_108 rfl rfl ?_
        refine own_iconst M X37 (v := (1 : Int32)) at_110 rfl rfl ?_
        refine own_icmp_lt M X37 at_111 (by decide) rfl rfl (fun q39 => ?_) (fun q39 => ?_)
        · exact absurd q39 (by decide)
        · skip
          refine own_aload M X37 at_114 rfl rfl rfl ?_
          refine own_callV M X37 (yrm := ({ frames := 0, cells := 0, slots := 0, locals := 0 } : Room)) [] (hw _ (List.mem_of_getElem? (i := 28) rfl)) (hw _ (List.mem_of_getElem? (i := 30) rfl)) (hw _ (List.mem_of_getElem? (i := 29) rfl)) (hw _ (List.mem_of_getElem? (i := 31) rfl)) (hw _ (List.mem_of_getElem? (i := 6) rfl)) (hw _ (List.mem_of_getElem? (i := 32) rfl)) (by decide) E38 (met_6 _ Z a0 hw h35 n0 X37.size a3 [u0, u1] u2 B33 ge4 (by simp)) rfl at_116 rfl own_pd4 rfl rfl 0 (Nat.le_of_eq rfl) (by decide) (by decide) (by decide) (by decide) ?_
          rintro T41 h42 v43 X44 ⟨rfl, B40⟩
          have E45 := B40.1
          replace X44 : own_Sx n0 K T41 h42 2 18 := X44
          show own_Fin n0 K _ T41 119 #[.val (.int u0), .val (.int u1), .val (.int u2), .val (.int u3), .val (.int u4), .val (.int u5), .val (.int (3 : Int32)), .val (.int (2 : Int32)), .val (.int u8), .val (.int u9), .val (.ref a3), .unset, .unset] [(.int u2)]
          refine own_pop M X44 at_119 rfl rfl ?_
          refine own_iload M X44 at_120 rfl rfl ?_
          refine own_iconst M X44 (v := (2 : Int32)) at_122 rfl rfl ?_
          refine own_icmp_lt M X44 at_123 (by decide) rfl rfl (fun q46 => ?_) (fun q46 => ?_)
          · exact absurd q46 (by decide)
          · skip
            refine own_aload M X44 at_126 rfl rfl rfl ?_
            refine own_callV M X44 (yrm := ({ frames := 0, cells := 0, slots := 0, locals := 0 } : Room)) [] (hw _ (List.mem_of_getElem? (i := 28) rfl)) (hw _ (List.mem_of_getElem? (i := 30) rfl)) (hw _ (List.mem_of_getElem? (i := 29) rfl)) (hw _ (List.mem_of_getElem? (i := 31) rfl)) (hw _ (List.mem_of_getElem? (i := 6) rfl)) (hw _ (List.mem_of_getElem? (i := 32) rfl)) (by decide) E45 (met_6 _ Z a0 hw h42 n0 X44.size a3 [u0] u1 B40 ge4 (by simp)) rfl at_128 rfl own_pd4 rfl rfl 0 (Nat.le_of_eq rfl) (by decide) (by decide) (by decide) (by decide) ?_
            rintro T48 h49 v50 X51 ⟨rfl, B47⟩
            have E52 := B47.1
            replace X51 : own_Sx n0 K T48 h49 2 18 := X51
            show own_Fin n0 K _ T48 131 #[.val (.int u0), .val (.int u1), .val (.int u2), .val (.int u3), .val (.int u4), .val (.int u5), .val (.int (3 : Int32)), .val (.int (2 : Int32)), .val (.int u8), .val (.int u9), .val (.ref a3), .unset, .unset] [(.int u1)]
            refine own_pop M X51 at_131 rfl rfl ?_
            refine own_iload M X51 at_132 rfl rfl ?_
            refine own_iconst M X51 (v := (3 : Int32)) at_134 rfl rfl ?_
            refine own_icmp_lt M X51 at_135 (by decide) rfl rfl (fun q53 => ?_) (fun q53 => ?_)
            · skip
              refine own_iload M X51 at_144 rfl rfl ?_
              refine own_iload M X51 at_146 rfl rfl ?_
              refine own_isub M X51 at_148 rfl ?_
              show own_Fin n0 K _ T48 149 #[.val (.int u0), .val (.int u1), .val (.int u2), .val (.int u3), .val (.int u4), .val (.int u5), .val (.int (3 : Int32)), .val (.int (2 : Int32)), .val (.int u8), .val (.int u9), .val (.ref a3), .unset, .unset] [(.int (1 : Int32))]
              refine own_istore M X51 (L' := #[.val (.int u0), .val (.int u1), .val (.int u2), .val (.int u3), .val (.int u4), .val (.int u5), .val (.int (3 : Int32)), .val (.int (2 : Int32)), .val (.int u8), .val (.int u9), .val (.ref a3), .val (.int (1 : Int32)), .unset]) at_149 rfl rfl ?_
              refine own_iload M X51 at_151 rfl rfl ?_
              refine own_iconst M X51 (v := (1 : Int32)) at_153 rfl rfl ?_
              refine own_icmp_lt M X51 at_154 (by decide) rfl rfl (fun q54 => ?_) (fun q54 => ?_)
              · exact absurd q54 (by decide)
              · skip
                refine own_iload M X51 at_157 rfl rfl ?_
                refine own_iloadN M X51 at_159 rfl rfl ?_
                refine own_icmp_eq M X51 at_160 (by decide) rfl rfl (fun q55 => ?_) (fun q55 => ?_)
                · skip
                  refine own_iconst M X51 (v := (1 : Int32)) at_187 rfl rfl ?_
                  refine own_goto M X51 at_188 (by decide) rfl ?_
                  refine own_istore M X51 (L' := #[.val (.int u0), .val (.int u1), .val (.int u2), .val (.int u3), .val (.int u4), .val (.int u5), .val (.int (3 : Int32)), .val (.int (2 : Int32)), .val (.int u8), .val (.int u9), .val (.ref a3), .val (.int (1 : Int32)), .val (.int (1 : Int32))]) at_192 rfl rfl ?_
                  refine own_aload M X51 at_194 rfl rfl rfl ?_
                  refine own_iload M X51 at_196 rfl rfl ?_
                  refine own_callVP M X51 (yrm := ({ frames := 0, cells := 0, slots := 0, locals := 0 } : Room)) [(.int u9)] (hw _ (List.mem_of_getElem? (i := 16) rfl)) (hw _ (List.mem_of_getElem? (i := 18) rfl)) (hw _ (List.mem_of_getElem? (i := 17) rfl)) (hw _ (List.mem_of_getElem? (i := 19) rfl)) (hw _ (List.mem_of_getElem? (i := 6) rfl)) (hw _ (List.mem_of_getElem? (i := 20) rfl)) (by decide) E52 (met_4 _ Z a0 hw h49 n0 X51.size a3 u9 [u0] B47 (by simp)) rfl at_198 rfl own_pd2 rfl rfl 0 (Nat.le_of_eq rfl) (by decide) (by decide) rfl rfl ?_
                  intro T56 X57
                  refine own_iload M X57 at_201 rfl rfl ?_
                  refine own_icmp_ne M X57 at_203 (by decide) rfl rfl (fun q58 => ?_) (fun q58 => ?_)
                  · skip
                    refine own_iconst M X57 (v := (0 : Int32)) at_210 rfl rfl ?_
                    exact own_retN M X57 (z' := (0 : Int32)) (by simp) at_211 rfl (by have hP1 := hP h49; rw [T0_63_3_2, if_pos q55, if_neg q58] at hP1; exact hP1)
                  · skip
                    refine own_iconst M X57 (v := (1 : Int32)) at_206 rfl rfl ?_
                    refine own_goto M X57 at_207 (by decide) rfl ?_
                    exact own_retN M X57 (z' := (1 : Int32)) (by simp) at_211 rfl (by have hP1 := hP h49; rw [T0_63_3_2, if_pos q55, if_pos q58] at hP1; exact hP1)
                · skip
                  refine own_iload M X51 at_163 rfl rfl ?_
                  refine own_iconst M X51 (v := (2 : Int32)) at_165 rfl rfl ?_
                  refine own_icmp_lt M X51 at_166 (by decide) rfl rfl (fun q59 => ?_) (fun q59 => ?_)
                  · skip
                    refine own_iload M X51 at_175 rfl rfl ?_
                    refine own_iconst M X51 (v := (3 : Int32)) at_177 rfl rfl ?_
                    refine own_icmp_lt M X51 at_178 (by decide) rfl rfl (fun q60 => ?_) (fun q60 => ?_)
                    · skip
                      refine own_iconst M X51 (v := (0 : Int32)) at_191 rfl rfl ?_
                      refine own_istore M X51 (L' := #[.val (.int u0), .val (.int u1), .val (.int u2), .val (.int u3), .val (.int u4), .val (.int u5), .val (.int (3 : Int32)), .val (.int (2 : Int32)), .val (.int u8), .val (.int u9), .val (.ref a3), .val (.int (1 : Int32)), .val (.int (0 : Int32))]) at_192 rfl rfl ?_
                      refine own_aload M X51 at_194 rfl rfl rfl ?_
                      refine own_iload M X51 at_196 rfl rfl ?_
                      refine own_callVP M X51 (yrm := ({ frames := 0, cells := 0, slots := 0, locals := 0 } : Room)) [(.int u9)] (hw _ (List.mem_of_getElem? (i := 16) rfl)) (hw _ (List.mem_of_getElem? (i := 18) rfl)) (hw _ (List.mem_of_getElem? (i := 17) rfl)) (hw _ (List.mem_of_getElem? (i := 19) rfl)) (hw _ (List.mem_of_getElem? (i := 6) rfl)) (hw _ (List.mem_of_getElem? (i := 20) rfl)) (by decide) E52 (met_4 _ Z a0 hw h49 n0 X51.size a3 u9 [u0] B47 (by simp)) rfl at_198 rfl own_pd2 rfl rfl 0 (Nat.le_of_eq rfl) (by decide) (by decide) rfl rfl ?_
                      intro T61 X62
                      refine own_iload M X62 at_201 rfl rfl ?_
                      refine own_icmp_ne M X62 at_203 (by decide) rfl rfl (fun q63 => ?_) (fun q63 => ?_)
                      · skip
                        refine own_iconst M X62 (v := (0 : Int32)) at_210 rfl rfl ?_
                        exact own_retN M X62 (z' := (0 : Int32)) (by simp) at_211 rfl (by have hP1 := hP h49; rw [T0_63_3_2, if_neg q55, if_neg q63] at hP1; exact hP1)
                      · skip
                        refine own_iconst M X62 (v := (1 : Int32)) at_206 rfl rfl ?_
                        refine own_goto M X62 at_207 (by decide) rfl ?_
                        exact own_retN M X62 (z' := (1 : Int32)) (by simp) at_211 rfl (by have hP1 := hP h49; rw [T0_63_3_2, if_neg q55, if_pos q63] at hP1; exact hP1)
                    · exact absurd (by decide) q60
                  · exact absurd (by decide) q59
            · exact absurd (by decide) q53
def T0_63_3_3 (u9 : Int32) : Int32 := (if (own_ct [] u9) = (0 : Int32) then (1 : Int32) else (0 : Int32))
set_option maxRecDepth 65536 in
set_option maxHeartbeats 40000000 in
theorem tl0_63_3_3 (l : Launch) (Z : State) (a0 : Array Value) (hw : ∀ d ∈ tables_1, d.before a0 Z = true) {n0 : Nat} {K : own_Cx} {P : Option Value → Heap → Prop} {T : State} {h : Heap} (M : own_Mx Z a0 K code "com/example/mangrove/mangrove/reasoner/IntStackContainsPinLaw" maxLocals ret room_1) (X : own_Sx n0 K T h 0 0) (u0 u1 u2 u3 u4 u5 u6 u7 u8 u9 : Int32) (e6 : u6 = 3) (e7 : u7 = 3)
    (hP : ∀ hh, P (some (.int (T0_63_3_3 u9))) hh) : own_Fin n0 K P T 63 #[.val (.int u0), .val (.int u1), .val (.int u2), .val (.int u3), .val (.int u4), .val (.int u5), .val (.int u6), .val (.int u7), .val (.int u8), .val (.int u9), .unset, .unset, .unset] [] := by
  subst e6 e7
  refine own_new M X (hw _ (List.mem_of_getElem? (i := 4) rfl)) (hw _ (List.mem_of_getElem? (i := 5) rfl)) (hw _ (List.mem_of_getElem? (i := 6) rfl)) at_63 rfl (by decide) (by decide) ?_
  intro T1 h2 a3 ge4 gs5 X6 E7 A8 D9
  have F10 : Fld Z h2 a3 "com/example/mangrove/mangrove/reasoner/IntStack" "values" "[I" .null := D9 (Or.inl (hw _ (List.mem_of_getElem? (i := 15) rfl))) (ty := (.array .int)) (by decide)
  have F11 : Fld Z h2 a3 "com/example/mangrove/mangrove/reasoner/IntStack" "size" "I" (.int (0 : Int32)) := D9 (Or.inl (hw _ (List.mem_of_getElem? (i := 22) rfl))) (ty := .int) (by decide)
  refine own_dup M X6 at_66 rfl rfl ?_
  refine own_callN M X6 (yrm := ({ frames := 1, cells := 1, slots := 16, locals := 12 } : Room)) [] (hw _ (List.mem_of_getElem? (i := 7) rfl)) (hw _ (List.mem_of_getElem? (i := 8) rfl)) (hw _ (List.mem_of_getElem? (i := 6) rfl)) (hw _ (List.mem_of_getElem? (i := 9) rfl)) (by decide) rfl rfl (met_2 _ Z a0 hw h2 n0 X6.size a3 ge4 A8 F11 F10) rfl at_67 rfl own_pd1 rfl rfl 1 (Nat.le_of_eq rfl) (by decide) (by decide) (by decide) (by decide) ?_
  rintro T13 h14 v15 X16 ⟨rfl, B12⟩
  have E17 := B12.1
  replace X16 : own_Sx n0 K T13 h14 2 18 := X16
  show own_Fin n0 K _ T13 70 #[.val (.int u0), .val (.int u1), .val (.int u2), .val (.int u3), .val (.int u4), .val (.int u5), .val (.int (3 : Int32)), .val (.int (3 : Int32)), .val (.int u8), .val (.int u9), .unset, .unset, .unset] [(.ref a3)]
  refine own_astore M X16 (L' := #[.val (.int u0), .val (.int u1), .val (.int u2), .val (.int u3), .val (.int u4), .val (.int u5), .val (.int (3 : Int32)), .val (.int (3 : Int32)), .val (.int u8), .val (.int u9), .val (.ref a3), .unset, .unset]) at_70 rfl rfl rfl ?_
  refine own_iload M X16 at_72 rfl rfl ?_
  refine own_iconst M X16 (v := (1 : Int32)) at_74 rfl rfl ?_
  refine own_icmp_lt M X16 at_75 (by decide) rfl rfl (fun q18 => ?_) (fun q18 => ?_)
  · exact absurd q18 (by decide)
  · skip
    refine own_aload M X16 at_78 rfl rfl rfl ?_
    refine own_iloadN M X16 at_80 rfl rfl ?_
    refine own_callV M X16 (yrm := ({ frames := 0, cells := 0, slots := 0, locals := 0 } : Room)) [(.int u0)] (hw _ (List.mem_of_getElem? (i := 23) rfl)) (hw _ (List.mem_of_getElem? (i := 25) rfl)) (hw _ (List.mem_of_getElem? (i := 24) rfl)) (hw _ (List.mem_of_getElem? (i := 26) rfl)) (hw _ (List.mem_of_getElem? (i := 6) rfl)) (hw _ (List.mem_of_getElem? (i := 27) rfl)) (by decide) E17 (met_5 _ Z a0 hw h14 n0 X16.size a3 u0 [] B12 ge4 (by simp)) rfl at_81 rfl own_pd3 rfl rfl 0 (Nat.le_of_eq rfl) (by decide) (by decide) (by decide) (by decide) ?_
    rintro T20 h21 v22 X23 ⟨rfl, B19⟩
    replace B19 : own_Is Z h21 n0 a3 [u0] := B19
    have E24 := B19.1
    replace X23 : own_Sx n0 K T20 h21 2 18 := X23
    show own_Fin n0 K _ T20 84 #[.val (.int u0), .val (.int u1), .val (.int u2), .val (.int u3), .val (.int u4), .val (.int u5), .val (.int (3 : Int32)), .val (.int (3 : Int32)), .val (.int u8), .val (.int u9), .val (.ref a3), .unset, .unset] []
    refine own_iload M X23 at_84 rfl rfl ?_
    refine own_iconst M X23 (v := (2 : Int32)) at_86 rfl rfl ?_
    refine own_icmp_lt M X23 at_87 (by decide) rfl rfl (fun q25 => ?_) (fun q25 => ?_)
    · exact absurd q25 (by decide)
    · skip
      refine own_aload M X23 at_90 rfl rfl rfl ?_
      refine own_iloadN M X23 at_92 rfl rfl ?_
      refine own_callV M X23 (yrm := ({ frames := 0, cells := 0, slots := 0, locals := 0 } : Room)) [(.int u1)] (hw _ (List.mem_of_getElem? (i := 23) rfl)) (hw _ (List.mem_of_getElem? (i := 25) rfl)) (hw _ (List.mem_of_getElem? (i := 24) rfl)) (hw _ (List.mem_of_getElem? (i := 26) rfl)) (hw _ (List.mem_of_getElem? (i := 6) rfl)) (hw _ (List.mem_of_getElem? (i := 27) rfl)) (by decide) E24 (met_5 _ Z a0 hw h21 n0 X23.size a3 u1 [u0] B19 ge4 (by simp)) rfl at_93 rfl own_pd3 rfl rfl 0 (Nat.le_of_eq rfl) (by decide) (by decide) (by decide) (by decide) ?_
      rintro T27 h28 v29 X30 ⟨rfl, B26⟩
      replace B26 : own_Is Z h28 n0 a3 [u0, u1] := B26
      have E31 := B26.1
      replace X30 : own_Sx n0 K T27 h28 2 18 := X30
      show own_Fin n0 K _ T27 96 #[.val (.int u0), .val (.int u1), .val (.int u2), .val (.int u3), .val (.int u4), .val (.int u5), .val (.int (3 : Int32)), .val (.int (3 : Int32)), .val (.int u8), .val (.int u9), .val (.ref a3), .unset, .unset] []
      refine own_iload M X30 at_96 rfl rfl ?_
      refine own_iconst M X30 (v := (3 : Int32)) at_98 rfl rfl ?_
      refine own_icmp_lt M X30 at_99 (by decide) rfl rfl (fun q32 => ?_) (fun q32 => ?_)
      · exact absurd q32 (by decide)
      · skip
        refine own_aload M X30 at_102 rfl rfl rfl ?_
        refine own_iloadN M X30 at_104 rfl rfl ?_
        refine own_callV M X30 (yrm := ({ frames := 0, cells := 0, slots := 0, locals := 0 } : Room)) [(.int u2)] (hw _ (List.mem_of_getElem? (i := 23) rfl)) (hw _ (List.mem_of_getElem? (i := 25) rfl)) (hw _ (List.mem_of_getElem? (i := 24) rfl)) (hw _ (List.mem_of_getElem? (i := 26) rfl)) (hw _ (List.mem_of_getElem? (i := 6) rfl)) (hw _ (List.mem_of_getElem? (i := 27) rfl)) (by decide) E31 (met_5 _ Z a0 hw h28 n0 X30.size a3 u2 [u0, u1] B26 ge4 (by simp)) rfl at_105 rfl own_pd3 rfl rfl 0 (Nat.le_of_eq rfl) (by decide) (by decide) (by decide) (by decide) ?_
        rintro T34 h35 v36 X37 ⟨rfl, B33⟩
        replace B33 : own_Is Z h35 n0 a3 [u0, u1, u2] := B33
        have E38 := B33.1
        replace X37 : own_Sx n0 K T34 h35 2 18 := X37
        show own_Fin n0 K _ T34 108 #[.val (.int u0), .val (.int u1), .val (.int u2), .val (.int u3), .val (.int u4), .val (.int u5), .val (.int (3 : Int32)), .val (.int (3 : Int32)), .val (.int u8), .val (.int u9), .val (.ref a3), .unset, .unset] []
        refine own_iload M X37 at_108 rfl rfl ?_
        refine own_iconst M X37 (v := (1 : Int32)) at_110 rfl rfl ?_
        refine own_icmp_lt M X37 at_111 (by decide) rfl rfl (fun q39 => ?_) (fun q39 => ?_)
        · exact absurd q39 (by decide)
        · skip
          refine own_aload M X37 at_114 rfl rfl rfl ?_
          refine own_callV M X37 (yrm := ({ frames := 0, cells := 0, slots := 0, locals := 0 } : Room)) [] (hw _ (List.mem_of_getElem? (i := 28) rfl)) (hw _ (List.mem_of_getElem? (i := 30) rfl)) (hw _ (List.mem_of_getElem? (i := 29) rfl)) (hw _ (List.mem_of_getElem? (i := 31) rfl)) (hw _ (List.mem_of_getElem? (i := 6) rfl)) (hw _ (List.mem_of_getElem? (i := 32) rfl)) (by decide) E38 (met_6 _ Z a0 hw h35 n0 X37.size a3 [u0, u1] u2 B33 ge4 (by simp)) rfl at_116 rfl own_pd4 rfl rfl 0 (Nat.le_of_eq rfl) (by decide) (by decide) (by decide) (by decide) ?_
          rintro T41 h42 v43 X44 ⟨rfl, B40⟩
          have E45 := B40.1
          replace X44 : own_Sx n0 K T41 h42 2 18 := X44
          show own_Fin n0 K _ T41 119 #[.val (.int u0), .val (.int u1), .val (.int u2), .val (.int u3), .val (.int u4), .val (.int u5), .val (.int (3 : Int32)), .val (.int (3 : Int32)), .val (.int u8), .val (.int u9), .val (.ref a3), .unset, .unset] [(.int u2)]
          refine own_pop M X44 at_119 rfl rfl ?_
          refine own_iload M X44 at_120 rfl rfl ?_
          refine own_iconst M X44 (v := (2 : Int32)) at_122 rfl rfl ?_
          refine own_icmp_lt M X44 at_123 (by decide) rfl rfl (fun q46 => ?_) (fun q46 => ?_)
          · exact absurd q46 (by decide)
          · skip
            refine own_aload M X44 at_126 rfl rfl rfl ?_
            refine own_callV M X44 (yrm := ({ frames := 0, cells := 0, slots := 0, locals := 0 } : Room)) [] (hw _ (List.mem_of_getElem? (i := 28) rfl)) (hw _ (List.mem_of_getElem? (i := 30) rfl)) (hw _ (List.mem_of_getElem? (i := 29) rfl)) (hw _ (List.mem_of_getElem? (i := 31) rfl)) (hw _ (List.mem_of_getElem? (i := 6) rfl)) (hw _ (List.mem_of_getElem? (i := 32) rfl)) (by decide) E45 (met_6 _ Z a0 hw h42 n0 X44.size a3 [u0] u1 B40 ge4 (by simp)) rfl at_128 rfl own_pd4 rfl rfl 0 (Nat.le_of_eq rfl) (by decide) (by decide) (by decide) (by decide) ?_
            rintro T48 h49 v50 X51 ⟨rfl, B47⟩
            have E52 := B47.1
            replace X51 : own_Sx n0 K T48 h49 2 18 := X51
            show own_Fin n0 K _ T48 131 #[.val (.int u0), .val (.int u1), .val (.int u2), .val (.int u3), .val (.int u4), .val (.int u5), .val (.int (3 : Int32)), .val (.int (3 : Int32)), .val (.int u8), .val (.int u9), .val (.ref a3), .unset, .unset] [(.int u1)]
            refine own_pop M X51 at_131 rfl rfl ?_
            refine own_iload M X51 at_132 rfl rfl ?_
            refine own_iconst M X51 (v := (3 : Int32)) at_134 rfl rfl ?_
            refine own_icmp_lt M X51 at_135 (by decide) rfl rfl (fun q53 => ?_) (fun q53 => ?_)
            · exact absurd q53 (by decide)
            · skip
              refine own_aload M X51 at_138 rfl rfl rfl ?_
              refine own_callV M X51 (yrm := ({ frames := 0, cells := 0, slots := 0, locals := 0 } : Room)) [] (hw _ (List.mem_of_getElem? (i := 28) rfl)) (hw _ (List.mem_of_getElem? (i := 30) rfl)) (hw _ (List.mem_of_getElem? (i := 29) rfl)) (hw _ (List.mem_of_getElem? (i := 31) rfl)) (hw _ (List.mem_of_getElem? (i := 6) rfl)) (hw _ (List.mem_of_getElem? (i := 32) rfl)) (by decide) E52 (met_6 _ Z a0 hw h49 n0 X51.size a3 [] u0 B47 ge4 (by simp)) rfl at_140 rfl own_pd4 rfl rfl 0 (Nat.le_of_eq rfl) (by decide) (by decide) (by decide) (by decide) ?_
              rintro T55 h56 v57 X58 ⟨rfl, B54⟩
              have E59 := B54.1
              replace X58 : own_Sx n0 K T55 h56 2 18 := X58
              show own_Fin n0 K _ T55 143 #[.val (.int u0), .val (.int u1), .val (.int u2), .val (.int u3), .val (.int u4), .val (.int u5), .val (.int (3 : Int32)), .val (.int (3 : Int32)), .val (.int u8), .val (.int u9), .val (.ref a3), .unset, .unset] [(.int u0)]
              refine own_pop M X58 at_143 rfl rfl ?_
              refine own_iload M X58 at_144 rfl rfl ?_
              refine own_iload M X58 at_146 rfl rfl ?_
              refine own_isub M X58 at_148 rfl ?_
              show own_Fin n0 K _ T55 149 #[.val (.int u0), .val (.int u1), .val (.int u2), .val (.int u3), .val (.int u4), .val (.int u5), .val (.int (3 : Int32)), .val (.int (3 : Int32)), .val (.int u8), .val (.int u9), .val (.ref a3), .unset, .unset] [(.int (0 : Int32))]
              refine own_istore M X58 (L' := #[.val (.int u0), .val (.int u1), .val (.int u2), .val (.int u3), .val (.int u4), .val (.int u5), .val (.int (3 : Int32)), .val (.int (3 : Int32)), .val (.int u8), .val (.int u9), .val (.ref a3), .val (.int (0 : Int32)), .unset]) at_149 rfl rfl ?_
              refine own_iload M X58 at_151 rfl rfl ?_
              refine own_iconst M X58 (v := (1 : Int32)) at_153 rfl rfl ?_
              refine own_icmp_lt M X58 at_154 (by decide) rfl rfl (fun q60 => ?_) (fun q60 => ?_)
              · skip
                refine own_iload M X58 at_163 rfl rfl ?_
                refine own_iconst M X58 (v := (2 : Int32)) at_165 rfl rfl ?_
                refine own_icmp_lt M X58 at_166 (by decide) rfl rfl (fun q61 => ?_) (fun q61 => ?_)
                · skip
                  refine own_iload M X58 at_175 rfl rfl ?_
                  refine own_iconst M X58 (v := (3 : Int32)) at_177 rfl rfl ?_
                  refine own_icmp_lt M X58 at_178 (by decide) rfl rfl (fun q62 => ?_) (fun q62 => ?_)
                  · skip
                    refine own_iconst M X58 (v := (0 : Int32)) at_191 rfl rfl ?_
                    refine own_istore M X58 (L' := #[.val (.int u0), .val (.int u1), .val (.int u2), .val (.int u3), .val (.int u4), .val (.int u5), .val (.int (3 : Int32)), .val (.int (3 : Int32)), .val (.int u8), .val (.int u9), .val (.ref a3), .val (.int (0 : Int32)), .val (.int (0 : Int32))]) at_192 rfl rfl ?_
                    refine own_aload M X58 at_194 rfl rfl rfl ?_
                    refine own_iload M X58 at_196 rfl rfl ?_
                    refine own_callVP M X58 (yrm := ({ frames := 0, cells := 0, slots := 0, locals := 0 } : Room)) [(.int u9)] (hw _ (List.mem_of_getElem? (i := 16) rfl)) (hw _ (List.mem_of_getElem? (i := 18) rfl)) (hw _ (List.mem_of_getElem? (i := 17) rfl)) (hw _ (List.mem_of_getElem? (i := 19) rfl)) (hw _ (List.mem_of_getElem? (i := 6) rfl)) (hw _ (List.mem_of_getElem? (i := 20) rfl)) (by decide) E59 (met_4 _ Z a0 hw h56 n0 X58.size a3 u9 [] B54 (by simp)) rfl at_198 rfl own_pd2 rfl rfl 0 (Nat.le_of_eq rfl) (by decide) (by decide) rfl rfl ?_
                    intro T63 X64
                    refine own_iload M X64 at_201 rfl rfl ?_
                    refine own_icmp_ne M X64 at_203 (by decide) rfl rfl (fun q65 => ?_) (fun q65 => ?_)
                    · skip
                      refine own_iconst M X64 (v := (0 : Int32)) at_210 rfl rfl ?_
                      exact own_retN M X64 (z' := (0 : Int32)) (by simp) at_211 rfl (by have hP1 := hP h56; rw [T0_63_3_3, if_neg q65] at hP1; exact hP1)
                    · skip
                      refine own_iconst M X64 (v := (1 : Int32)) at_206 rfl rfl ?_
                      refine own_goto M X64 at_207 (by decide) rfl ?_
                      exact own_retN M X64 (z' := (1 : Int32)) (by simp) at_211 rfl (by have hP1 := hP h56; rw [T0_63_3_3, if_pos q65] at hP1; exact hP1)
                  · exact absurd (by decide) q62
                · exact absurd (by decide) q61
              · exact absurd (by decide) q60
theorem own_kp (x4 : Int32) : ((x4 &&& (3 : Int32)) = 0 ∧ (F1 (((x4.toUInt32 >>> ((2 : Int32) &&& 31).toUInt32).toInt32) &&& (3 : Int32)) (x4 &&& (3 : Int32))) = 0) ∨ ((x4 &&& (3 : Int32)) = 1 ∧ (F1 (((x4.toUInt32 >>> ((2 : Int32) &&& 31).toUInt32).toInt32) &&& (3 : Int32)) (x4 &&& (3 : Int32))) = 0) ∨ ((x4 &&& (3 : Int32)) = 1 ∧ (F1 (((x4.toUInt32 >>> ((2 : Int32) &&& 31).toUInt32).toInt32) &&& (3 : Int32)) (x4 &&& (3 : Int32))) = 1) ∨ ((x4 &&& (3 : Int32)) = 2 ∧ (F1 (((x4.toUInt32 >>> ((2 : Int32) &&& 31).toUInt32).toInt32) &&& (3 : Int32)) (x4 &&& (3 : Int32))) = 0) ∨ ((x4 &&& (3 : Int32)) = 2 ∧ (F1 (((x4.toUInt32 >>> ((2 : Int32) &&& 31).toUInt32).toInt32) &&& (3 : Int32)) (x4 &&& (3 : Int32))) = 1) ∨ ((x4 &&& (3 : Int32)) = 2 ∧ (F1 (((x4.toUInt32 >>> ((2 : Int32) &&& 31).toUInt32).toInt32) &&& (3 : Int32)) (x4 &&& (3 : Int32))) = 2) ∨ ((x4 &&& (3 : Int32)) = 3 ∧ (F1 (((x4.toUInt32 >>> ((2 : Int32) &&& 31).toUInt32).toInt32) &&& (3 : Int32)) (x4 &&& (3 : Int32))) = 0) ∨ ((x4 &&& (3 : Int32)) = 3 ∧ (F1 (((x4.toUInt32 >>> ((2 : Int32) &&& 31).toUInt32).toInt32) &&& (3 : Int32)) (x4 &&& (3 : Int32))) = 1) ∨ ((x4 &&& (3 : Int32)) = 3 ∧ (F1 (((x4.toUInt32 >>> ((2 : Int32) &&& 31).toUInt32).toInt32) &&& (3 : Int32)) (x4 &&& (3 : Int32))) = 2) ∨ ((x4 &&& (3 : Int32)) = 3 ∧ (F1 (((x4.toUInt32 >>> ((2 : Int32) &&& 31).toUInt32).toInt32) &&& (3 : Int32)) (x4 &&& (3 : Int32))) = 3) := by
  have l0 : (0 : Int32).toInt = 0 := by decide
  have l1 : (1 : Int32).toInt = 1 := by decide
  have l2 : (2 : Int32).toInt = 2 := by decide
  have l3 : (3 : Int32).toInt = 3 := by decide
  have m : ∀ y : Int32, (y &&& 3).toInt = y.toInt % 2 ^ 2 := fun y => Jvm.Kit.i32_mask y 3 (k := 2) (by decide) (by decide)
  have h1 := m x4
  have h2 := m ((x4.toUInt32 >>> ((2 : Int32) &&& 31).toUInt32).toInt32)
  generalize (x4 &&& (3 : Int32)) = a at *
  generalize (((x4.toUInt32 >>> ((2 : Int32) &&& 31).toUInt32).toInt32) &&& (3 : Int32)) = b at *
  unfold F1
  simp only [Int32.lt_iff_toInt_lt, ← Int32.toInt_inj, l0, l1, l2, l3]
  by_cases q : a.toInt < b.toInt
  · simp only [if_pos q]; omega
  · simp only [if_neg q]; omega
theorem own_T0_63_0_0 (u9 : Int32) : T0_63_0_0 u9 = 1 := by
  unfold T0_63_0_0
  simp only [own_ct]
  first | done | decide
theorem own_T0_63_1_0 (u0 u9 : Int32) : T0_63_1_0 u0 u9 = 1 := by
  unfold T0_63_1_0
  simp only [own_ct, eq_comm (a := u0) (b := u9)]
  by_cases qu0 : u9 = u0
  · skip
    simp only [if_pos qu0, if_true, if_false]
    first | done | decide
  · skip
    simp only [if_neg qu0, if_true, if_false]
    first | done | decide
theorem own_T0_63_1_1 (u9 : Int32) : T0_63_1_1 u9 = 1 := by
  unfold T0_63_1_1
  simp only [own_ct]
  first | done | decide
theorem own_T0_63_2_0 (u0 u1 u9 : Int32) : T0_63_2_0 u0 u1 u9 = 1 := by
  unfold T0_63_2_0
  simp only [own_ct, eq_comm (a := u0) (b := u9), eq_comm (a := u1) (b := u9)]
  by_cases qu0 : u9 = u0
  · skip
    by_cases qu1 : u9 = u1
    · skip
      simp only [if_pos qu0, if_pos qu1, if_true, if_false]
      first | done | decide
    · skip
      simp only [if_pos qu0, if_neg qu1, if_true, if_false]
      first | done | decide
  · skip
    by_cases qu1 : u9 = u1
    · skip
      simp only [if_neg qu0, if_pos qu1, if_true, if_false]
      first | done | decide
    · skip
      simp only [if_neg qu0, if_neg qu1, if_true, if_false]
      first | done | decide
theorem own_T0_63_2_1 (u0 u9 : Int32) : T0_63_2_1 u0 u9 = 1 := by
  unfold T0_63_2_1
  simp only [own_ct, eq_comm (a := u0) (b := u9)]
  by_cases qu0 : u9 = u0
  · skip
    simp only [if_pos qu0, if_true, if_false]
    first | done | decide
  · skip
    simp only [if_neg qu0, if_true, if_false]
    first | done | decide
theorem own_T0_63_2_2 (u9 : Int32) : T0_63_2_2 u9 = 1 := by
  unfold T0_63_2_2
  simp only [own_ct]
  first | done | decide
theorem own_T0_63_3_0 (u0 u1 u2 u9 : Int32) : T0_63_3_0 u0 u1 u2 u9 = 1 := by
  unfold T0_63_3_0
  simp only [own_ct, eq_comm (a := u0) (b := u9), eq_comm (a := u1) (b := u9), eq_comm (a := u2) (b := u9)]
  by_cases qu0 : u9 = u0
  · skip
    by_cases qu1 : u9 = u1
    · skip
      by_cases qu2 : u9 = u2
      · skip
        simp only [if_pos qu0, if_pos qu1, if_pos qu2, if_true, if_false]
        first | done | decide
      · skip
        simp only [if_pos qu0, if_pos qu1, if_neg qu2, if_true, if_false]
        first | done | decide
    · skip
      by_cases qu2 : u9 = u2
      · skip
        simp only [if_pos qu0, if_neg qu1, if_pos qu2, if_true, if_false]
        first | done | decide
      · skip
        simp only [if_pos qu0, if_neg qu1, if_neg qu2, if_true, if_false]
        first | done | decide
  · skip
    by_cases qu1 : u9 = u1
    · skip
      by_cases qu2 : u9 = u2
      · skip
        simp only [if_neg qu0, if_pos qu1, if_pos qu2, if_true, if_false]
        first | done | decide
      · skip
        simp only [if_neg qu0, if_pos qu1, if_neg qu2, if_true, if_false]
        first | done | decide
    · skip
      by_cases qu2 : u9 = u2
      · skip
        simp only [if_neg qu0, if_neg qu1, if_pos qu2, if_true, if_false]
        first | done | decide
      · skip
        simp only [if_neg qu0, if_neg qu1, if_neg qu2, if_true, if_false]
        first | done | decide
theorem own_T0_63_3_1 (u0 u1 u9 : Int32) : T0_63_3_1 u0 u1 u9 = 1 := by
  unfold T0_63_3_1
  simp only [own_ct, eq_comm (a := u0) (b := u9), eq_comm (a := u1) (b := u9)]
  by_cases qu0 : u9 = u0
  · skip
    by_cases qu1 : u9 = u1
    · skip
      simp only [if_pos qu0, if_pos qu1, if_true, if_false]
      first | done | decide
    · skip
      simp only [if_pos qu0, if_neg qu1, if_true, if_false]
      first | done | decide
  · skip
    by_cases qu1 : u9 = u1
    · skip
      simp only [if_neg qu0, if_pos qu1, if_true, if_false]
      first | done | decide
    · skip
      simp only [if_neg qu0, if_neg qu1, if_true, if_false]
      first | done | decide
theorem own_T0_63_3_2 (u0 u9 : Int32) : T0_63_3_2 u0 u9 = 1 := by
  unfold T0_63_3_2
  simp only [own_ct, eq_comm (a := u0) (b := u9)]
  by_cases qu0 : u9 = u0
  · skip
    simp only [if_pos qu0, if_true, if_false]
    first | done | decide
  · skip
    simp only [if_neg qu0, if_true, if_false]
    first | done | decide
theorem own_T0_63_3_3 (u9 : Int32) : T0_63_3_3 u9 = 1 := by
  unfold T0_63_3_3
  simp only [own_ct]
  first | done | decide
theorem own_pn0 : plainName "com/example/mangrove/mangrove/reasoner/IntStackContainsPinLaw" = true := by first | (simp [plainName, overriddenIn]; done) | decide +kernel
set_option maxRecDepth 65536 in
set_option maxHeartbeats 40000000 in
theorem met_0 (l : Launch) (Z : State) (a0 : Array Value) (hw : ∀ d ∈ tables_1, d.before a0 Z = true) (h0 : Heap) (n0 : Nat) (hn : n0 ≤ h0.size) (x0 x1 x2 x3 x4 x5 : Int32) : own_Met l Z n0 x code maxLocals ret room_1 #[(.int x0), (.int x1), (.int x2), (.int x3), (.int x4), (.int x5)] h0 (fun v h => v = some (.int 1)) := by
  refine own_enter (L := #[.val (.int x0), .val (.int x1), .val (.int x2), .val (.int x3), .val (.int x4), .val (.int x5), .unset, .unset, .unset, .unset, .unset, .unset, .unset]) (plainFor_of_name own_pn0) hw hn (fun m => by first | (simp [entryFrame, mkF, argsToLocals, Value.category, maxLocals]; done) | rfl) (fun K T hK M X => ?_)
  refine own_iload M X at_0 rfl rfl ?_
  refine own_iconst M X (v := (3 : Int32)) at_2 rfl rfl ?_
  refine own_iand M X at_3 rfl ?_
  refine own_istore M X (L' := #[.val (.int x0), .val (.int x1), .val (.int x2), .val (.int x3), .val (.int x4), .val (.int x5), .val (.int (x4 &&& (3 : Int32))), .unset, .unset, .unset, .unset, .unset, .unset]) at_4 rfl rfl ?_
  refine own_iload M X at_6 rfl rfl ?_
  refine own_iconst M X (v := (2 : Int32)) at_8 rfl rfl ?_
  refine own_iushr M X at_9 rfl ?_
  refine own_iconst M X (v := (3 : Int32)) at_10 rfl rfl ?_
  refine own_iand M X at_11 rfl ?_
  refine own_iload M X at_12 rfl rfl ?_
  refine own_callP M X (yrm := ({ frames := 0, cells := 0, slots := 0, locals := 0 } : Room)) [(.int (((x4.toUInt32 >>> ((2 : Int32) &&& 31).toUInt32).toInt32) &&& (3 : Int32))), (.int (x4 &&& (3 : Int32)))] (hw _ (List.mem_of_getElem? (i := 0) rfl)) (hw _ (List.mem_of_getElem? (i := 1) rfl)) (hw _ (List.mem_of_getElem? (i := 2) rfl)) (hw _ (List.mem_of_getElem? (i := 3) rfl)) (by decide) (met_1 _ Z a0 hw h0 n0 X.size (((x4.toUInt32 >>> ((2 : Int32) &&& 31).toUInt32).toInt32) &&& (3 : Int32)) (x4 &&& (3 : Int32))) rfl at_14 rfl own_pd0 rfl rfl 0 (Nat.le_of_eq rfl) (by decide) (by decide) rfl rfl ?_
  intro T1 X2
  refine own_istore M X2 (L' := #[.val (.int x0), .val (.int x1), .val (.int x2), .val (.int x3), .val (.int x4), .val (.int x5), .val (.int (x4 &&& (3 : Int32))), .val (.int (F1 (((x4.toUInt32 >>> ((2 : Int32) &&& 31).toUInt32).toInt32) &&& (3 : Int32)) (x4 &&& (3 : Int32)))), .unset, .unset, .unset, .unset, .unset]) at_17 rfl rfl ?_
  refine own_iload M X2 at_19 rfl rfl ?_
  refine own_iconst M X2 (v := (3 : Int32)) at_21 rfl rfl ?_
  refine own_iand M X2 at_22 rfl ?_
  refine own_istore M X2 (L' := #[.val (.int x0), .val (.int x1), .val (.int x2), .val (.int x3), .val (.int x4), .val (.int x5), .val (.int (x4 &&& (3 : Int32))), .val (.int (F1 (((x4.toUInt32 >>> ((2 : Int32) &&& 31).toUInt32).toInt32) &&& (3 : Int32)) (x4 &&& (3 : Int32)))), .val (.int (x5 &&& (3 : Int32))), .unset, .unset, .unset, .unset]) at_23 rfl rfl ?_
  refine sg0_25 l Z a0 hw M X2 x0 x1 x2 x3 x4 x5 (x4 &&& (3 : Int32)) (F1 (((x4.toUInt32 >>> ((2 : Int32) &&& 31).toUInt32).toInt32) &&& (3 : Int32)) (x4 &&& (3 : Int32))) (x5 &&& (3 : Int32)) (fun T3 X4 => ?_)
  rcases own_kp x4 with ⟨e6, e7⟩ | ⟨e6, e7⟩ | ⟨e6, e7⟩ | ⟨e6, e7⟩ | ⟨e6, e7⟩ | ⟨e6, e7⟩ | ⟨e6, e7⟩ | ⟨e6, e7⟩ | ⟨e6, e7⟩ | ⟨e6, e7⟩
  · exact tl0_63_0_0 l Z a0 hw M X4 x0 x1 x2 x3 x4 x5 (x4 &&& (3 : Int32)) (F1 (((x4.toUInt32 >>> ((2 : Int32) &&& 31).toUInt32).toInt32) &&& (3 : Int32)) (x4 &&& (3 : Int32))) (x5 &&& (3 : Int32)) (g0_25_l9 x0 x1 x2 x3 (x5 &&& (3 : Int32))) e6 e7 (fun _ => by rw [own_T0_63_0_0])
  · exact tl0_63_1_0 l Z a0 hw M X4 x0 x1 x2 x3 x4 x5 (x4 &&& (3 : Int32)) (F1 (((x4.toUInt32 >>> ((2 : Int32) &&& 31).toUInt32).toInt32) &&& (3 : Int32)) (x4 &&& (3 : Int32))) (x5 &&& (3 : Int32)) (g0_25_l9 x0 x1 x2 x3 (x5 &&& (3 : Int32))) e6 e7 (fun _ => by rw [own_T0_63_1_0])
  · exact tl0_63_1_1 l Z a0 hw M X4 x0 x1 x2 x3 x4 x5 (x4 &&& (3 : Int32)) (F1 (((x4.toUInt32 >>> ((2 : Int32) &&& 31).toUInt32).toInt32) &&& (3 : Int32)) (x4 &&& (3 : Int32))) (x5 &&& (3 : Int32)) (g0_25_l9 x0 x1 x2 x3 (x5 &&& (3 : Int32))) e6 e7 (fun _ => by rw [own_T0_63_1_1])
  · exact tl0_63_2_0 l Z a0 hw M X4 x0 x1 x2 x3 x4 x5 (x4 &&& (3 : Int32)) (F1 (((x4.toUInt32 >>> ((2 : Int32) &&& 31).toUInt32).toInt32) &&& (3 : Int32)) (x4 &&& (3 : Int32))) (x5 &&& (3 : Int32)) (g0_25_l9 x0 x1 x2 x3 (x5 &&& (3 : Int32))) e6 e7 (fun _ => by rw [own_T0_63_2_0])
  · exact tl0_63_2_1 l Z a0 hw M X4 x0 x1 x2 x3 x4 x5 (x4 &&& (3 : Int32)) (F1 (((x4.toUInt32 >>> ((2 : Int32) &&& 31).toUInt32).toInt32) &&& (3 : Int32)) (x4 &&& (3 : Int32))) (x5 &&& (3 : Int32)) (g0_25_l9 x0 x1 x2 x3 (x5 &&& (3 : Int32))) e6 e7 (fun _ => by rw [own_T0_63_2_1])
  · exact tl0_63_2_2 l Z a0 hw M X4 x0 x1 x2 x3 x4 x5 (x4 &&& (3 : Int32)) (F1 (((x4.toUInt32 >>> ((2 : Int32) &&& 31).toUInt32).toInt32) &&& (3 : Int32)) (x4 &&& (3 : Int32))) (x5 &&& (3 : Int32)) (g0_25_l9 x0 x1 x2 x3 (x5 &&& (3 : Int32))) e6 e7 (fun _ => by rw [own_T0_63_2_2])
  · exact tl0_63_3_0 l Z a0 hw M X4 x0 x1 x2 x3 x4 x5 (x4 &&& (3 : Int32)) (F1 (((x4.toUInt32 >>> ((2 : Int32) &&& 31).toUInt32).toInt32) &&& (3 : Int32)) (x4 &&& (3 : Int32))) (x5 &&& (3 : Int32)) (g0_25_l9 x0 x1 x2 x3 (x5 &&& (3 : Int32))) e6 e7 (fun _ => by rw [own_T0_63_3_0])
  · exact tl0_63_3_1 l Z a0 hw M X4 x0 x1 x2 x3 x4 x5 (x4 &&& (3 : Int32)) (F1 (((x4.toUInt32 >>> ((2 : Int32) &&& 31).toUInt32).toInt32) &&& (3 : Int32)) (x4 &&& (3 : Int32))) (x5 &&& (3 : Int32)) (g0_25_l9 x0 x1 x2 x3 (x5 &&& (3 : Int32))) e6 e7 (fun _ => by rw [own_T0_63_3_1])
  · exact tl0_63_3_2 l Z a0 hw M X4 x0 x1 x2 x3 x4 x5 (x4 &&& (3 : Int32)) (F1 (((x4.toUInt32 >>> ((2 : Int32) &&& 31).toUInt32).toInt32) &&& (3 : Int32)) (x4 &&& (3 : Int32))) (x5 &&& (3 : Int32)) (g0_25_l9 x0 x1 x2 x3 (x5 &&& (3 : Int32))) e6 e7 (fun _ => by rw [own_T0_63_3_2])
  · exact tl0_63_3_3 l Z a0 hw M X4 x0 x1 x2 x3 x4 x5 (x4 &&& (3 : Int32)) (F1 (((x4.toUInt32 >>> ((2 : Int32) &&& 31).toUInt32).toInt32) &&& (3 : Int32)) (x4 &&& (3 : Int32))) (x5 &&& (3 : Int32)) (g0_25_l9 x0 x1 x2 x3 (x5 &&& (3 : Int32))) e6 e7 (fun _ => by rw [own_T0_63_3_3])
theorem own_result (x0 : Int32) (x1 : Int32) (x2 : Int32) (x3 : Int32) (x4 : Int32) (x5 : Int32) {v : Option Value} (hv : v = some (.int 1)) : v = some (.int 1) := hv
set_option maxRecDepth 65536 in
set_option maxHeartbeats 40000000 in
theorem comes_1 {Post : Tables → Env → Array Value → State → Outcome → State → Prop} (hpost : ∀ tb e args s v u, (limb_1_1.after args s (.returned v) u = true ∧ limb_1_2.after args s (.returned v) u = true ∧ True) → FrameEnd s (.returned v) u (Jvm.fieldLocs frame_1_writes args s ++ Jvm.arrayLocs frame_1_arrays args s ++ Jvm.staticLocs frame_1_statics s) 16 128 → Post tb e args s (.returned v) u) :
    ArmFor flags0 classFile x code maxLocals ret World_1 tables_1 room_1 Calls_1 rest_1 Pre_1 Post := by
  intro l hfl _ _ p e ha hc hk s m args below hf hA hF happ hP
  obtain ⟨hcalls, hrest, hpre⟩ := hP
  obtain ⟨-, -, -, hnamed, -, -, -, hat⟩ := (Spec.applies_iff hf).mp happ
  obtain ⟨hg, hn⟩ := and_e (Cond.before_iff.mp (show (Jvm.Cond.and given_1 narrow_1).before args s = true from hpre))
  obtain ⟨g1, g2⟩ := and_e hg
  obtain ⟨g3, g4⟩ := and_e g2
  obtain ⟨g5, g6⟩ := and_e g4
  obtain ⟨g7, g8⟩ := and_e g6
  obtain ⟨g9, g10⟩ := and_e g8
  obtain ⟨g11, g12⟩ := and_e g10
  obtain ⟨w0, w1, w2, w3, w4, w5, rfl⟩ : ∃ w0 w1 w2 w3 w4 w5 : Value, args = #[w0, w1, w2, w3, w4, w5] := by
    have hs : args.size = 6 := by simpa [Cond.value, given_1] using g1
    obtain ⟨L⟩ := args
    match L, hs with
    | [w0, w1, w2, w3, w4, w5], _ => exact ⟨w0, w1, w2, w3, w4, w5, rfl⟩
  have hw := fun d (hd : d ∈ tables_1) => atoms_spec (ws := Jvm.Cond.code x code maxLocals ret :: tables_1) hat d (List.mem_cons_of_mem _ hd)
  obtain ⟨i0, ei0⟩ := is_v g3
  obtain rfl : w0 = (.int i0) := Option.some.inj ei0
  obtain ⟨i1, ei1⟩ := is_v g5
  obtain rfl : w1 = (.int i1) := Option.some.inj ei1
  obtain ⟨i2, ei2⟩ := is_v g7
  obtain rfl : w2 = (.int i2) := Option.some.inj ei2
  obtain ⟨i3, ei3⟩ := is_v g9
  obtain rfl : w3 = (.int i3) := Option.some.inj ei3
  obtain ⟨i4, ei4⟩ := is_v g11
  obtain rfl : w4 = (.int i4) := Option.some.inj ei4
  obtain ⟨i5, ei5⟩ := is_v g12
  obtain rfl : w5 = (.int i5) := Option.some.inj ei5
  obtain ⟨n, o, h1, h2, h3, v, L, rfl, ⟨hv, N⟩, hq⟩ := met_0 l s _ hw s.heap s.heap.size (Nat.le_refl _) i0 i1 i2 i3 i4 i5 tables_1 p e ha hc hk s m _ below hf ((Spec.applies_iff_loose hf).mp happ).1 ⟨rfl, State.Warmed39.refl s, rfl⟩ trivial
  obtain rfl : v = some (.int 1) := own_result i0 i1 i2 i3 i4 i5 hv
  refine ⟨n, _, h1, h2, h3, hpost _ _ _ _ _ _ ⟨Cond.after_iff.mpr rfl, Cond.after_iff.mpr (eq_i res_at (Term.int_eval (1)) rfl), trivial⟩ ⟨hq.1, hq.2.1, (hq.2.2.sift fun y hy => Or.inr (N y hy)).mono (by decide) (by decide)⟩⟩
theorem main_1_1 : Claimed_1_1 := comes_1 fun _ _ _ _ _ _ h hF => ⟨h.1, hF⟩
theorem main_1_2 : Claimed_1_2 := comes_1 fun _ _ _ _ _ _ h hF => ⟨h.2.1, hF⟩
end Jvm.Pilot.@@N@@
namespace Jvm.Pilot.@@N@@
open Jvm Jvm.ClassFile Sem Op Lib Jvm.Free Jvm.Stand Jvm.Pilot.@@N@@.Jvm.D
/-! MADE BY PROGRAM (witnessworld.py) out of the Statement's table words and the real class files: 10 classes; the members and pool entries that the words name. The judged class is class 1, her method 1. -/
namespace start1
open Jvm.ClassFile
def u (s : String) : CpInfo := .utf8 (stringToUtf16 s)
/-- a pool by its gaps: so many unusable entries, then the entry; so many at the end -/
def gap : Nat → List CpInfo → List CpInfo
  | 0, r => r
  | n + 1, r => .unusable :: gap n r
def poolList (es : List (Nat × CpInfo)) (last : Nat) : List CpInfo := es.foldr (fun e r => gap e.1 (e.2 :: r)) (gap last [])
def pool (es : List (Nat × CpInfo)) (last : Nat) : Array CpInfo := ⟨poolList es last⟩
def fileOf (pool : Array CpInfo) (this : Nat) (attrs : Array Attribute := #[]) (ms : Array MethodInfo := #[]) (fl : Nat := 33) (sup : Nat := 0) (ifs : Array Nat := #[]) (fds : Array FieldInfo := #[]) : ClassFile where
  minorVersion := 0
  majorVersion := 65
  constantPool := pool
  accessFlags := fl
  thisClass := this
  superClass := sup
  interfaces := ifs
  fields := fds
  methods := ms
  attributes := attrs
def plain (name : String) (sup : Option ClassId) : Class where
  name := name
  kind := .ordinary
  loader := none
  accessFlags := 33
  super := sup
  interfaces := #[]
  cf := none
  fields := #[]
  methods := #[]
  instanceTypes := #[]
  staticTypes := #[]
  resolved := #[]
  callSites := []
  init := .initialized
  statics := none
  mirror := none

def pool0 : Array CpInfo := pool [(5, u "<init>"), (0, u "()V"), (1, .class_ 10), (1, u "java/lang/Object")] 113

def k0c0 : Code := { maxStack := 0, maxLocals := 1, code := object_method_1_code, exceptionTable := #[], attributes := #[] }
def k0m0 : Method := { name := "<init>", desc := "()V", sig := { parameters := [], returnType := none }, accessFlags := 1, code := some k0c0 }
/-- java/lang/Object -/
def k0 : Class := { plain "java/lang/Object" none with
  accessFlags := 33
  interfaces := #[]
  cf := some (fileOf pool0 8 #[] #[{ accessFlags := 1, nameIndex := 5, descriptorIndex := 6, attributes := #[] }] 33 0 #[] #[])
  fields := #[]
  methods := #[k0m0]
  instanceTypes := #[]
  staticTypes := #[]
  resolved := Array.replicate 124 none
  statics := none }

def pool1 : Array CpInfo := pool [(2, .class_ 4), (0, .nameAndType 5 6), (0, u "java/lang/Object"), (0, u "<init>"), (0, u "()V"), (0, .methodref 8 9), (0, .class_ 10), (0, .nameAndType 11 12), (0, u "java/lang/Math"), (0, u "min"), (0, u "(II)I"), (0, .class_ 14), (0, u "com/example/mangrove/mangrove/reasoner/IntStack"), (0, .methodref 13 3), (0, .methodref 13 17), (0, .nameAndType 18 19), (0, u "push"), (0, u "(I)V"), (0, .methodref 13 21), (0, .nameAndType 22 23), (0, u "pop"), (0, u "()I"), (0, .methodref 13 25), (0, .nameAndType 26 27), (0, u "contains"), (0, u "(I)Z"), (0, .class_ 29), (0, u "com/example/mangrove/mangrove/reasoner/IntStackContainsPinLaw"), (2, u "law"), (0, u "(IIIIII)Z")] 3

def k1m0 : Method := { name := "<init>", desc := "()V", sig := { parameters := [], returnType := none }, accessFlags := 1, code := none }
def k1c1 : Code := { maxStack := 2, maxLocals := 13, code := code, exceptionTable := #[], attributes := #[] }
def k1m1 : Method := { name := "law", desc := "(IIIIII)Z", sig := { parameters := [.int, .int, .int, .int, .int, .int], returnType := some .boolean }, accessFlags := 9, code := some k1c1 }
/-- com/example/mangrove/mangrove/reasoner/IntStackContainsPinLaw -/
def k1 : Class := { plain "com/example/mangrove/mangrove/reasoner/IntStackContainsPinLaw" (some 0) with
  accessFlags := 49
  interfaces := #[]
  cf := some (fileOf pool1 28 #[] #[{ accessFlags := 1, nameIndex := 5, descriptorIndex := 6, attributes := #[] }, { accessFlags := 9, nameIndex := 32, descriptorIndex := 33, attributes := #[] }] 49 2 #[] #[])
  fields := #[]
  methods := #[k1m0, k1m1]
  instanceTypes := #[]
  staticTypes := #[]
  resolved := Array.replicate 37 none
  statics := none }

def pool2 : Array CpInfo := pool [(1, .class_ 2), (0, u "java/lang/Math"), (1, .class_ 6), (1, u "java/lang/Object"), (0, u "<init>"), (0, u "()V"), (89, .class_ 100), (1, u "java/lang/Math$RandomNumberGeneratorHolder"), (71, u "negativeZeroFloatBits"), (0, u "J"), (2, u "negativeZeroDoubleBits"), (24, u "min"), (43, u "$assertionsDisabled"), (0, u "Z"), (88, u "(II)I"), (2, u "twoToTheDoubleScaleDown"), (0, u "D"), (4, u "twoToTheDoubleScaleUp"), (9, u "E"), (3, u "PI"), (2, u "TAU"), (2, u "DEGREES_TO_RADIANS"), (0, u "RADIANS_TO_DEGREES")] 94

def k2m0 : Method := { name := "<init>", desc := "()V", sig := { parameters := [], returnType := none }, accessFlags := 2, code := none }
def k2c1 : Code := { maxStack := 2, maxLocals := 2, code := jdk_29_method_69_code, exceptionTable := #[], attributes := #[] }
def k2m1 : Method := { name := "min", desc := "(II)I", sig := { parameters := [.int, .int], returnType := some .int }, accessFlags := 9, code := some k2c1 }
/-- java/lang/Math -/
def k2 : Class := { plain "java/lang/Math" (some 0) with
  accessFlags := 49
  interfaces := #[]
  cf := some (fileOf pool2 1 #[.nestMembers #[98]] #[{ accessFlags := 2, nameIndex := 7, descriptorIndex := 8, attributes := #[] }, { accessFlags := 9, nameIndex := 201, descriptorIndex := 335, attributes := #[] }] 49 4 #[] #[{ accessFlags := 25, nameIndex := 354, descriptorIndex := 339, attributes := #[] }, { accessFlags := 25, nameIndex := 358, descriptorIndex := 339, attributes := #[] }, { accessFlags := 25, nameIndex := 361, descriptorIndex := 339, attributes := #[] }, { accessFlags := 26, nameIndex := 364, descriptorIndex := 339, attributes := #[] }, { accessFlags := 26, nameIndex := 365, descriptorIndex := 339, attributes := #[] }, { accessFlags := 26, nameIndex := 172, descriptorIndex := 173, attributes := #[] }, { accessFlags := 26, nameIndex := 176, descriptorIndex := 173, attributes := #[] }, { accessFlags := 8, nameIndex := 344, descriptorIndex := 339, attributes := #[] }, { accessFlags := 8, nameIndex := 338, descriptorIndex := 339, attributes := #[] }, { accessFlags := 4120, nameIndex := 245, descriptorIndex := 246, attributes := #[] }])
  fields := #[{ name := "E", type := .double, accessFlags := 25, slot := 0, constantValue := 0 }, { name := "PI", type := .double, accessFlags := 25, slot := 1, constantValue := 0 }, { name := "TAU", type := .double, accessFlags := 25, slot := 2, constantValue := 0 }, { name := "DEGREES_TO_RADIANS", type := .double, accessFlags := 26, slot := 3, constantValue := 0 }, { name := "RADIANS_TO_DEGREES", type := .double, accessFlags := 26, slot := 4, constantValue := 0 }, { name := "negativeZeroFloatBits", type := .long, accessFlags := 26, slot := 5, constantValue := 0 }, { name := "negativeZeroDoubleBits", type := .long, accessFlags := 26, slot := 6, constantValue := 0 }, { name := "twoToTheDoubleScaleUp", type := .double, accessFlags := 8, slot := 7, constantValue := 0 }, { name := "twoToTheDoubleScaleDown", type := .double, accessFlags := 8, slot := 8, constantValue := 0 }, { name := "$assertionsDisabled", type := .boolean, accessFlags := 4120, slot := 9, constantValue := 0 }]
  methods := #[k2m0, k2m1]
  instanceTypes := #[]
  staticTypes := #[.double, .double, .double, .double, .double, .long, .long, .double, .double, .boolean]
  resolved := Array.replicate 460 none
  statics := none }

def pool3 : Array CpInfo := pool [(1, .methodref 2 3), (0, .class_ 4), (0, .nameAndType 5 6), (0, u "java/lang/Object"), (0, u "<init>"), (0, u "()V"), (0, .class_ 8), (0, u "com/example/mangrove/mangrove/reasoner/IntStack"), (0, .fieldref 7 10), (0, .nameAndType 11 12), (0, u "values"), (0, u "[I"), (0, .fieldref 7 14), (0, .nameAndType 15 16), (0, u "size"), (0, u "I"), (12, u "INITIAL"), (4, u "push"), (0, u "(I)V"), (1, u "pop"), (0, u "()I"), (5, u "contains"), (0, u "(I)Z")] 2

def k3c0 : Code := { maxStack := 2, maxLocals := 1, code := prog_18_method_1_code, exceptionTable := #[], attributes := #[] }
def k3m0 : Method := { name := "<init>", desc := "()V", sig := { parameters := [], returnType := none }, accessFlags := 0, code := some k3c0 }
def k3c1 : Code := { maxStack := 5, maxLocals := 2, code := prog_18_method_2_code, exceptionTable := #[], attributes := #[] }
def k3m1 : Method := { name := "push", desc := "(I)V", sig := { parameters := [.int], returnType := none }, accessFlags := 0, code := some k3c1 }
def k3c2 : Code := { maxStack := 4, maxLocals := 2, code := prog_18_method_3_code, exceptionTable := #[], attributes := #[] }
def k3m2 : Method := { name := "pop", desc := "()I", sig := { parameters := [], returnType := some .int }, accessFlags := 0, code := some k3c2 }
def k3c3 : Code := { maxStack := 2, maxLocals := 3, code := prog_18_method_8_code, exceptionTable := #[], attributes := #[] }
def k3m3 : Method := { name := "contains", desc := "(I)Z", sig := { parameters := [.int], returnType := some .boolean }, accessFlags := 0, code := some k3c3 }
/-- com/example/mangrove/mangrove/reasoner/IntStack -/
def k3 : Class := { plain "com/example/mangrove/mangrove/reasoner/IntStack" (some 0) with
  accessFlags := 32
  interfaces := #[]
  cf := some (fileOf pool3 7 #[] #[{ accessFlags := 0, nameIndex := 5, descriptorIndex := 6, attributes := #[] }, { accessFlags := 0, nameIndex := 34, descriptorIndex := 35, attributes := #[] }, { accessFlags := 0, nameIndex := 37, descriptorIndex := 38, attributes := #[] }, { accessFlags := 0, nameIndex := 44, descriptorIndex := 45, attributes := #[] }] 32 2 #[] #[{ accessFlags := 26, nameIndex := 29, descriptorIndex := 16, attributes := #[] }, { accessFlags := 2, nameIndex := 11, descriptorIndex := 12, attributes := #[] }, { accessFlags := 2, nameIndex := 15, descriptorIndex := 16, attributes := #[] }])
  fields := #[{ name := "INITIAL", type := .int, accessFlags := 26, slot := 0, constantValue := 0 }, { name := "values", type := (.array .int), accessFlags := 2, slot := 0, constantValue := 0 }, { name := "size", type := .int, accessFlags := 2, slot := 1, constantValue := 0 }]
  methods := #[k3m0, k3m1, k3m2, k3m3]
  instanceTypes := #[(.array .int), .int]
  staticTypes := #[.int]
  resolved := Array.replicate 48 none
  statics := none }

def pool4 : Array CpInfo := pool [(1, u "java/lang/Cloneable"), (0, .class_ 1), (0, u "java/lang/Object"), (0, .class_ 3)] 3

/-- java/lang/Cloneable -/
def k4 : Class := { plain "java/lang/Cloneable" (some 0) with
  accessFlags := 1537
  interfaces := #[]
  cf := some (fileOf pool4 2 #[] #[] 1537 4 #[] #[])
  fields := #[]
  methods := #[]
  instanceTypes := #[]
  staticTypes := #[]
  resolved := Array.replicate 8 none
  statics := none }

def pool5 : Array CpInfo := pool [(1, u "java/io/Serializable"), (0, .class_ 1), (0, u "java/lang/Object"), (0, .class_ 3)] 3

/-- java/io/Serializable -/
def k5 : Class := { plain "java/io/Serializable" (some 0) with
  accessFlags := 1537
  interfaces := #[]
  cf := some (fileOf pool5 2 #[] #[] 1537 4 #[] #[])
  fields := #[]
  methods := #[]
  instanceTypes := #[]
  staticTypes := #[]
  resolved := Array.replicate 8 none
  statics := none }

/-- the primitive byte -/
def k6 : Class := { plain "byte" none with kind := .primitive 'B', accessFlags := 0x411 }
/-- [B -/
def k7 : Class := { plain "[B" (some 0) with kind := .array 6 .byte, interfaces := #[4, 5], accessFlags := 1041 }

/-- the primitive int -/
def k8 : Class := { plain "int" none with kind := .primitive 'I', accessFlags := 0x411 }
/-- [I -/
def k9 : Class := { plain "[I" (some 0) with kind := .array 8 .int, interfaces := #[4, 5], accessFlags := 1041 }

def heap : Heap := #[]
def classes : Array Class := #[k0, k1, k2, k3, k4, k5, k6, k7, k8, k9]
def interned : List (Array UInt16 × Addr) := []
def slotsUsed : Nat := 0
def theMethod : MethodId := ⟨1, 1⟩
def args0 : Array Value := #[.int 5, .int 7, .int 9, .int 9, .int 9, .int 9]
def aboutOver (below : List Frame) : State where
  vm := { classes := classes, interned := interned.toArray }
  heap := heap
  slotsUsed := slotsUsed
  threads := #[{ frames := .invoking theMethod args0 :: below }]
def below0 : List Frame := [.native { method := ⟨0, 0⟩, args := #[] }]
def about1 : State := aboutOver below0
def p0 : Program := .bare "" "" ""
def e0 : Env := launch0.env 0 0 0
theorem w_frames : about1.frames = Frame.invoking theMethod args0 :: below0 := rfl
set_option maxRecDepth 65536 in
theorem w_args : argsFit about1.vm theMethod args0 = true := by decide +kernel
set_option maxRecDepth 65536 in
theorem w_heap : heapFits about1 = true := by decide +kernel
set_option maxRecDepth 65536 in
theorem w_runnable : about1.curStatus? = some .runnable := by decide +kernel
set_option maxRecDepth 65536 in
theorem w_alone : about1.alone = true := by decide +kernel
set_option maxRecDepth 65536 in
theorem w_named : about1.methodNamed? x = some theMethod := by decide +kernel
set_option maxRecDepth 65536 in
theorem w_hears : about1.hears theMethod below0 = true := by decide +kernel
set_option maxRecDepth 65536 in
theorem w_ripe : about1.ripe theMethod args0 below0 = true := by decide +kernel
theorem w_running : about1.status = .running := rfl
set_option maxRecDepth 65536 in
theorem w_room : about1.hasRoom e0.platform room_1 = true :=
  launch0.hasRoom_least _ room_1 (by decide +kernel) (by decide +kernel) (by decide +kernel) (by decide +kernel) (by decide +kernel) (by decide +kernel)
theorem allAtoms_all (ts : List Jvm.Cond) (a : Array Jvm.Value) (st : Jvm.State) : (allAtoms ts).before a st = ts.all (fun c => c.before a st) := by
  induction ts with
  | nil => rfl
  | cons c t ih =>
    show (Jvm.Cond.and c (allAtoms t)).before a st = _
    rw [Jvm.Cond.before_and, ih, List.all_cons]
def words1 : List Jvm.Cond := Jvm.Cond.code x code maxLocals ret :: tables_1
/-- a 'code' word, met by the world's own term for the bytes: nothing is compared byte by byte -/
theorem code_word {y : MethodName} {bytes : ByteArray} {mx : Nat} {rt : Option FieldType} {a : Array Value} {s : State} {m : MethodId} {meth : Method} {c : Code} (h1 : s.methodNamed? y = some m) (h2 : s.vm.method? m = some meth) (h3 : meth.code = some c) (h4 : c.code = bytes)
    (h5 : (c.maxLocals == mx && c.exceptionTable.isEmpty && decide (c.maxStack ≤ mostOperands) && decide (meth.sig.returnType = rt) && !meth.locks && decide (parseMethodDescriptor y.desc = some meth.sig)) = true) : (Jvm.Cond.code y bytes mx rt).before a s = true := by
  simp only [Bool.and_eq_true, beq_iff_eq, Bool.not_eq_true', decide_eq_true_eq] at h5
  obtain ⟨⟨⟨⟨⟨g1, g2⟩, g3⟩, g4⟩, g5⟩, g6⟩ := h5
  simp [Cond.before, Cond.holds, Cond.value, h1, h2, h3, h4, g1, g2, g3, g4, g5, g6]
def isCode : Jvm.Cond → Bool
  | .code _ _ _ _ => true
  | _ => false
theorem all_split {L : List Jvm.Cond} {P : Jvm.Cond → Bool} (h1 : L.all (fun c => isCode c || P c) = true) (h2 : ∀ c ∈ L.filter isCode, P c = true) : L.all P = true := by
  refine List.all_eq_true.mpr fun c hc => ?_
  have h := List.all_eq_true.mp h1 c hc
  rcases Bool.eq_false_or_eq_true (isCode c) with hi | hi
  · exact h2 c (List.mem_filter.mpr ⟨hc, hi⟩)
  · simpa [hi] using h
set_option maxRecDepth 65536 in
theorem w_c0 : (Jvm.Cond.code x code maxLocals ret).before args0 about1 = true := code_word (m := ⟨1, 1⟩) (meth := k1m1) (c := k1c1) (by decide +kernel) rfl rfl rfl (by decide +kernel)
set_option maxRecDepth 65536 in
theorem w_c1 : (Jvm.Cond.code ({ cls := "java/lang/Math", name := "min", desc := "(II)I" } : Jvm.MethodName) jdk_29_method_69_code (2 : Nat) (Option.some Jvm.ClassFile.FieldType.int)).before args0 about1 = true := code_word (m := ⟨2, 1⟩) (meth := k2m1) (c := k2c1) (by decide +kernel) rfl rfl rfl (by decide +kernel)
set_option maxRecDepth 65536 in
theorem w_c2 : (Jvm.Cond.code ({ cls := "com/example/mangrove/mangrove/reasoner/IntStack", name := "<init>", desc := "()V" } : Jvm.MethodName) prog_18_method_1_code (1 : Nat) (Option.none : Option Jvm.ClassFile.FieldType)).before args0 about1 = true := code_word (m := ⟨3, 0⟩) (meth := k3m0) (c := k3c0) (by decide +kernel) rfl rfl rfl (by decide +kernel)
set_option maxRecDepth 65536 in
theorem w_c3 : (Jvm.Cond.code ({ cls := "java/lang/Object", name := "<init>", desc := "()V" } : Jvm.MethodName) object_method_1_code (1 : Nat) (Option.none : Option Jvm.ClassFile.FieldType)).before args0 about1 = true := code_word (m := ⟨0, 0⟩) (meth := k0m0) (c := k0c0) (by decide +kernel) rfl rfl rfl (by decide +kernel)
set_option maxRecDepth 65536 in
theorem w_c4 : (Jvm.Cond.code ({ cls := "com/example/mangrove/mangrove/reasoner/IntStack", name := "contains", desc := "(I)Z" } : Jvm.MethodName) prog_18_method_8_code (3 : Nat) (Option.some Jvm.ClassFile.FieldType.boolean)).before args0 about1 = true := code_word (m := ⟨3, 3⟩) (meth := k3m3) (c := k3c3) (by decide +kernel) rfl rfl rfl (by decide +kernel)
set_option maxRecDepth 65536 in
theorem w_c5 : (Jvm.Cond.code ({ cls := "com/example/mangrove/mangrove/reasoner/IntStack", name := "push", desc := "(I)V" } : Jvm.MethodName) prog_18_method_2_code (2 : Nat) (Option.none : Option Jvm.ClassFile.FieldType)).before args0 about1 = true := code_word (m := ⟨3, 1⟩) (meth := k3m1) (c := k3c1) (by decide +kernel) rfl rfl rfl (by decide +kernel)
set_option maxRecDepth 65536 in
theorem w_c6 : (Jvm.Cond.code ({ cls := "com/example/mangrove/mangrove/reasoner/IntStack", name := "pop", desc := "()I" } : Jvm.MethodName) prog_18_method_3_code (2 : Nat) (Option.some Jvm.ClassFile.FieldType.int)).before args0 about1 = true := code_word (m := ⟨3, 2⟩) (meth := k3m2) (c := k3c2) (by decide +kernel) rfl rfl rfl (by decide +kernel)
def codes1 : List Jvm.Cond := [Jvm.Cond.code x code maxLocals ret, Jvm.Cond.code ({ cls := "java/lang/Math", name := "min", desc := "(II)I" } : Jvm.MethodName) jdk_29_method_69_code (2 : Nat) (Option.some Jvm.ClassFile.FieldType.int), Jvm.Cond.code ({ cls := "com/example/mangrove/mangrove/reasoner/IntStack", name := "<init>", desc := "()V" } : Jvm.MethodName) prog_18_method_1_code (1 : Nat) (Option.none : Option Jvm.ClassFile.FieldType), Jvm.Cond.code ({ cls := "java/lang/Object", name := "<init>", desc := "()V" } : Jvm.MethodName) object_method_1_code (1 : Nat) (Option.none : Option Jvm.ClassFile.FieldType), Jvm.Cond.code ({ cls := "com/example/mangrove/mangrove/reasoner/IntStack", name := "contains", desc := "(I)Z" } : Jvm.MethodName) prog_18_method_8_code (3 : Nat) (Option.some Jvm.ClassFile.FieldType.boolean), Jvm.Cond.code ({ cls := "com/example/mangrove/mangrove/reasoner/IntStack", name := "push", desc := "(I)V" } : Jvm.MethodName) prog_18_method_2_code (2 : Nat) (Option.none : Option Jvm.ClassFile.FieldType), Jvm.Cond.code ({ cls := "com/example/mangrove/mangrove/reasoner/IntStack", name := "pop", desc := "()I" } : Jvm.MethodName) prog_18_method_3_code (2 : Nat) (Option.some Jvm.ClassFile.FieldType.int)]
set_option maxRecDepth 65536 in
theorem codes_eq : words1.filter isCode = codes1 := rfl
theorem w_codes : ∀ c ∈ words1.filter isCode, c.before args0 about1 = true := by
  rw [codes_eq]
  intro c hc
  simp only [codes1, List.mem_cons, List.not_mem_nil, or_false] at hc
  rcases hc with rfl | rfl | rfl | rfl | rfl | rfl | rfl
  · exact w_c0
  · exact w_c1
  · exact w_c2
  · exact w_c3
  · exact w_c4
  · exact w_c5
  · exact w_c6
set_option maxRecDepth 65536 in
theorem w_t1 : (words1.take 24).all (fun c => isCode c || c.before args0 about1) = true := by decide +kernel
set_option maxRecDepth 65536 in
theorem w_t2 : (words1.drop 24).all (fun c => isCode c || c.before args0 about1) = true := by decide +kernel
theorem w_tables : (allAtoms (Jvm.Cond.code x code maxLocals ret :: tables_1)).before args0 about1 = true := by
  rw [allAtoms_all]
  show words1.all (fun c => c.before args0 about1) = true
  refine all_split ?_ w_codes
  rw [← List.take_append_drop 24 words1, List.all_append, w_t1, w_t2]
  rfl
set_option maxRecDepth 65536 in
theorem w_case : (Jvm.Cond.and given_1 narrow_1).before args0 about1 = true := by decide +kernel
theorem w_applies : (headSpec (Jvm.Cond.code x code maxLocals ret :: tables_1) room_1).applies x e0.platform about1 = true :=
  (Spec.applies_iff w_frames).mpr ⟨w_running, w_runnable, w_alone, w_named, w_hears, w_ripe, w_room, w_tables⟩
theorem atStart : AtStart classFile x code maxLocals ret World_1 tables_1 room_1 Calls_1 rest_1 Pre_1 launch0 p0 e0 about1 theMethod args0 below0 :=
  ⟨lists_1, trivial, launch0.admits_env _ _ _, launch0.least_env, fairChoices_fair.cas, fairChoices_fair.clock, w_frames, w_args, w_heap, w_applies, trivial, trivial, w_case⟩
end start1
theorem witness_1 : WitnessClaimed_1 := ⟨start1.p0, start1.e0, start1.about1, start1.theMethod, start1.args0, start1.below0, start1.atStart⟩
end Jvm.Pilot.@@N@@
