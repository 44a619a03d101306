import JvmDerived
import JvmDerived.Pilot.@@N@@Statement
import JvmDerived.Pilot.@@N@@Code
set_option linter.unusedVariables false
set_option linter.unusedSimpArgs false
@@BLOCK:NumsL.lean.txt@@
namespace Jvm.Pilot.@@N@@
open Jvm Jvm.ClassFile Sem Op Lib Jvm.Free Jvm.Stand Jvm.LawKit Jvm.RoadKit Bundle Jvm.Pilot.@@N@@.Jvm.D
/-! my own layer: what stands still in a walk (own_Cx, own_Mx), where it stands (own_Sx), what is left of it (own_Fin) -/
abbrev own_Cx : Type := Program × Launch × Env × Room × State × MethodId × Array Value × List Frame × Method × Code
def own_Sx (n0 : Nat) : own_Cx → State → Heap → Nat → Nat → Prop
  | (p, l, e, R, s, m, args, below, meth, c), T, h, cl, sl => ∃ locs, Stand p l e R s m args below meth c T locs cl sl ∧ Fr n0 locs ∧ T.heap = h ∧ n0 ≤ s.heap.size ∧ cl ≤ R.cells ∧ sl ≤ R.slots
def own_Mx (Z : State) (a0 : Array Value) : own_Cx → ByteArray → String → Nat → Option FieldType → Room → Prop
  | (p, l, e, R, s, m, args, below, meth, c), code, own, mx, ret, rm => p.tables.exec = Jvm.exec ∧ c.code = code ∧ c.maxLocals = mx ∧ s.vm.findClass own = some m.cls ∧ meth.sig.returnType = ret ∧ meth.locks = false ∧ Z.Warmed39 s.vm ∧ R = rm ∧ (∀ d ∈ tables_1, d.before a0 Z = true)
def own_Fin (n0 : Nat) : own_Cx → (Option Value → Heap → Prop) → State → Nat → Array Slot → List Value → Prop
  | (p, l, e, R, s, m, args, below, meth, c), P, T, pc, L, S => ∃ s₂ o, Steps p.tables e below (T.setTop (mkF m pc L S)) s₂ ∧ s₂.status = .running ∧ Ended s₂ below o ∧ ∃ v L', o = .returned v ∧ (P v s₂.heap ∧ Fr n0 L') ∧ FrameEnd s o s₂ L' R.cells R.slots
/-- a method's contract: from these arguments and this heap it returns, and P says what and with which heap -/
def own_Met (l : Launch) (Z : State) (n0 : Nat) (y : MethodName) (code : ByteArray) (mx : Nat) (ret : Option FieldType) (rm : Room) (args : Array Value) (h0 : Heap) (P : Option Value → Heap → Prop) : Prop :=
  ∀ ws : List Jvm.Cond, MetFree l y (head1 (Jvm.Cond.code y code mx ret :: ws) rm) (fun a U => a = args ∧ Z.Warmed39 U.vm ∧ U.heap = h0) (fun _ _ _ _ _ => True) (fun _ U o U' => ∃ v L, o = .returned v ∧ (P v U'.heap ∧ Fr n0 L) ∧ FrameEnd U o U' L rm.cells rm.slots)
section OwnLayer
variable {Z : State} {a0 : Array Value} {n0 : Nat} {K : own_Cx} {code : ByteArray} {own : String} {mx : Nat} {ret : Option FieldType} {rm : Room} {P : Option Value → Heap → Prop} {T : State} {h : Heap} {cl sl pc pc' : Nat} {L L' : Array Slot} {S rest : List Value}
theorem own_enter {l : Launch} {y : MethodName} {args : Array Value} {h0 : Heap} (hpl : plainFor y = true) (hw : ∀ d ∈ tables_1, d.before a0 Z = true) (hn : n0 ≤ h0.size) (he : ∀ m, entryFrame m args mx = mkF m 0 L [])
    (body : ∀ (K : own_Cx) (T : State), K.2.2.2.2.2.2.2.2.1.name = y.name → own_Mx Z a0 K code y.cls mx ret rm → own_Sx n0 K T h0 0 0 → own_Fin n0 K P T 0 L []) : own_Met l Z n0 y code mx ret rm args h0 P := by
  intro ws
  refine MetFree.of_bodySF hpl hisR ?_
  intro p e s m args' below meth c s₁ Bd hml0 hP hK
  obtain ⟨rfl, hZ, hh⟩ := hP
  have hown : s.vm.findClass y.cls = some m.cls := findClass_of_methodNamed Bd.named
  have X0 : Stand p l e rm s m args' below meth c s₁ [] 0 0 := Stand.of_body Bd
  have e0 : s₁.heap = h0 := by rw [← hh, Bd.state]; rfl
  obtain ⟨s2, o, st, r⟩ := body (p, l, e, rm, s, m, args', below, meth, c) s₁ (name_of_methodNamed Bd.named Bd.method).1 ⟨Bd.exec, Bd.bytes, hml0, hown, Bd.returns, Bd.notSynchronized, hZ, rfl, hw⟩ ⟨[], X0, Fr.nil n0, e0, by rw [hh]; exact hn, Nat.zero_le _, Nat.zero_le _⟩
  exact ⟨s2, o, castTop (he m) st, r⟩
theorem own_Sx.size (X : own_Sx n0 K T h cl sl) : n0 ≤ h.size := by
  obtain ⟨p, l, e, R, s, m, args, below, meth, c⟩ := K
  obtain ⟨locs, X, -, rfl, hn, -⟩ := X
  exact Nat.le_trans hn X.same.2.1
theorem own_ret {t : FieldType} (M : own_Mx Z a0 K code own mx (some t) rm) (X : own_Sx n0 K T h cl sl) {w w' : Value} {i : Instr} (hd : decode code pc = .ok (i, 1))
    (hst : ∀ {p : Program} {l : Launch} {e : Env} {R : Room} {s : State} {m : MethodId} {args : Array Value} {below : List Frame} {meth : Method} {c : Code} {locs : List Loc} {fs : List Frame}, Stand p l e R s m args below meth c T locs cl sl → p.tables.exec = Jvm.exec → meth.sig.returnType = some t → decode c.code pc = .ok (i, 1) → (∀ (f : JFrame) (acts : List Action), f.method = m → f.locked = none → f.entered = [] → (doReturn e (T.setTop f) acts (some w')).1 = T.setFrames fs) → Steps p.tables e below (T.setTop (mkF m pc L (w :: S))) (T.setFrames fs)) (hP : P (some w') h) : own_Fin n0 K P T pc L (w :: S) := by
  obtain ⟨p, l, e, R, s, m, args, below, meth, c⟩ := K
  obtain ⟨hx, hby, hml, hown, hret, hlk, hZ, rfl, hw⟩ := M
  obtain ⟨locs, X, hN, rfl, hn, hc, hs⟩ := X
  obtain ⟨fs, hr, hrun, hended, hW, hsame⟩ := X.leave (v := some w') (fun q => by rw [hret] at q; cases q) hlk
  exact ⟨_, _, hst X hx hret (hb hby hd) hr, hrun, hended, _, _, rfl, ⟨hP, hN⟩, ⟨_, rfl⟩, hW, hsame.mono hc hs⟩
theorem own_retI (M : own_Mx Z a0 K code own mx (some .int) rm) (X : own_Sx n0 K T h cl sl) {z : Int32} (hd : decode code pc = .ok (.ireturn, 1)) (hP : P (some (.int z)) h) : own_Fin n0 K P T pc L (.int z :: S) :=
  own_ret M X hd (fun X hx hret hd hr => retOut X hx hret rfl (Or.inl ⟨rfl, Or.inl rfl, z, rfl⟩) hd hr) hP
theorem own_retJ (M : own_Mx Z a0 K code own mx (some .long) rm) (X : own_Sx n0 K T h cl sl) {z : Int64} (hd : decode code pc = .ok (.lreturn, 1)) (hP : P (some (.long z)) h) : own_Fin n0 K P T pc L (.long z :: S) :=
  own_ret M X hd (fun X hx hret hd hr => retOut X hx hret rfl (Or.inr (Or.inl ⟨rfl, rfl, z, rfl⟩)) hd hr) hP
theorem own_retA {t : FieldType} (M : own_Mx Z a0 K code own mx (some t) rm) (X : own_Sx n0 K T h cl sl) {a : Addr} (ht : t.isReference = true) (hna : narrow t (.ref a) = .ref a) (hd : decode code pc = .ok (.areturn, 1)) (hP : P (some (.ref a)) h) : own_Fin n0 K P T pc L (.ref a :: S) :=
  own_ret M X hd (fun X hx hret hd hr => retOut X hx hret hna (Or.inr (Or.inr (Or.inr (Or.inr ⟨rfl, ht, rfl⟩)))) hd hr) hP
theorem own_retN {t : FieldType} (M : own_Mx Z a0 K code own mx (some t) rm) (X : own_Sx n0 K T h cl sl) {z z' : Int32} (ht : t = .boolean ∨ t = .byte ∨ t = .char ∨ t = .short) (hd : decode code pc = .ok (.ireturn, 1)) (hz : nar t z = z') (hP : P (some (.int z')) h) : own_Fin n0 K P T pc L (.int z :: S) :=
  own_ret M X hd (fun X hx hret hd hr => retN X hx hret ht hd (by rw [hz]; exact hr)) hP
theorem own_retV (M : own_Mx Z a0 K code own mx none rm) (X : own_Sx n0 K T h cl sl) (hd : decode code pc = .ok (.return_, 1)) (hP : P none h) : own_Fin n0 K P T pc L [] := by
  obtain ⟨p, l, e, R, s, m, args, below, meth, c⟩ := K
  obtain ⟨hx, hby, hml, hown, hret, hlk, hZ, rfl, hw⟩ := M
  obtain ⟨locs, X, hN, rfl, hn, hc, hs⟩ := X
  obtain ⟨fs, hr, hrun, hended, hW, hsame⟩ := X.leave (v := none) (fun _ => rfl) hlk
  exact ⟨_, _, X.returnOut hx hret (hb hby hd) hr, hrun, hended, _, _, rfl, ⟨hP, hN⟩, ⟨_, rfl⟩, hW, hsame.mono hc hs⟩
theorem own_iload (M : own_Mx Z a0 K code own mx ret rm) (X : own_Sx n0 K T h cl sl) {k : Nat} {v : Int32} (hd : decode code pc = .ok (.iload k, 2)) (hl : L[k]? = some (.val (.int v))) (hp : pc + 2 = pc') (hr : own_Fin n0 K P T pc' L (.int v :: S)) : own_Fin n0 K P T pc L (S) := by
  obtain ⟨p, l, e, R, s, m, args, below, meth, c⟩ := K
  obtain ⟨hx, hby, hml, hown, hret, hlk, hZ, rfl, hw⟩ := M
  obtain ⟨locs, X, hN, eT, hn, hcl, hsl⟩ := X
  obtain ⟨s2, o2, st, r⟩ := hr
  subst hp
  exact ⟨s2, o2, XS.iload X.here hx rfl (hb hby hd) hl st, r⟩
theorem own_iloadN (M : own_Mx Z a0 K code own mx ret rm) (X : own_Sx n0 K T h cl sl) {k : Fin 4} {v : Int32} (hd : decode code pc = .ok (.iload_n k, 1)) (hl : L[k.val]? = some (.val (.int v))) (hp : pc + 1 = pc') (hr : own_Fin n0 K P T pc' L (.int v :: S)) : own_Fin n0 K P T pc L (S) := by
  obtain ⟨p, l, e, R, s, m, args, below, meth, c⟩ := K
  obtain ⟨hx, hby, hml, hown, hret, hlk, hZ, rfl, hw⟩ := M
  obtain ⟨locs, X, hN, eT, hn, hcl, hsl⟩ := X
  obtain ⟨s2, o2, st, r⟩ := hr
  subst hp
  exact ⟨s2, o2, XS.iloadN X.here hx rfl (hb hby hd) hl st, r⟩
theorem own_istore (M : own_Mx Z a0 K code own mx ret rm) (X : own_Sx n0 K T h cl sl) {k : Nat} {v : Int32} (hd : decode code pc = .ok (.istore k, 2)) (hl : storeLocals L k (.int v) = some L') (hp : pc + 2 = pc') (hr : own_Fin n0 K P T pc' L' (S)) : own_Fin n0 K P T pc L (.int v :: S) := by
  obtain ⟨p, l, e, R, s, m, args, below, meth, c⟩ := K
  obtain ⟨hx, hby, hml, hown, hret, hlk, hZ, rfl, hw⟩ := M
  obtain ⟨locs, X, hN, eT, hn, hcl, hsl⟩ := X
  obtain ⟨s2, o2, st, r⟩ := hr
  subst hp
  exact ⟨s2, o2, XS.istore X.here hx rfl (hb hby hd) rfl hl st, r⟩
theorem own_istoreN (M : own_Mx Z a0 K code own mx ret rm) (X : own_Sx n0 K T h cl sl) {k : Fin 4} {v : Int32} (hd : decode code pc = .ok (.istore_n k, 1)) (hl : storeLocals L k.val (.int v) = some L') (hp : pc + 1 = pc') (hr : own_Fin n0 K P T pc' L' (S)) : own_Fin n0 K P T pc L (.int v :: S) := by
  obtain ⟨p, l, e, R, s, m, args, below, meth, c⟩ := K
  obtain ⟨hx, hby, hml, hown, hret, hlk, hZ, rfl, hw⟩ := M
  obtain ⟨locs, X, hN, eT, hn, hcl, hsl⟩ := X
  obtain ⟨s2, o2, st, r⟩ := hr
  subst hp
  exact ⟨s2, o2, XS.istoreN X.here hx rfl (hb hby hd) rfl hl st, r⟩
theorem own_lload (M : own_Mx Z a0 K code own mx ret rm) (X : own_Sx n0 K T h cl sl) {k : Nat} {v : Int64} (hd : decode code pc = .ok (.lload k, 2)) (hl : L[k]? = some (.val (.long v))) (hp : pc + 2 = pc') (hr : own_Fin n0 K P T pc' L (.long v :: S)) : own_Fin n0 K P T pc L (S) := by
  obtain ⟨p, l, e, R, s, m, args, below, meth, c⟩ := K
  obtain ⟨hx, hby, hml, hown, hret, hlk, hZ, rfl, hw⟩ := M
  obtain ⟨locs, X, hN, eT, hn, hcl, hsl⟩ := X
  obtain ⟨s2, o2, st, r⟩ := hr
  subst hp
  exact ⟨s2, o2, XS.lload X.here hx rfl (hb hby hd) hl st, r⟩
theorem own_lloadN (M : own_Mx Z a0 K code own mx ret rm) (X : own_Sx n0 K T h cl sl) {k : Fin 4} {v : Int64} (hd : decode code pc = .ok (.lload_n k, 1)) (hl : L[k.val]? = some (.val (.long v))) (hp : pc + 1 = pc') (hr : own_Fin n0 K P T pc' L (.long v :: S)) : own_Fin n0 K P T pc L (S) := by
  obtain ⟨p, l, e, R, s, m, args, below, meth, c⟩ := K
  obtain ⟨hx, hby, hml, hown, hret, hlk, hZ, rfl, hw⟩ := M
  obtain ⟨locs, X, hN, eT, hn, hcl, hsl⟩ := X
  obtain ⟨s2, o2, st, r⟩ := hr
  subst hp
  exact ⟨s2, o2, XS.lloadN X.here hx rfl (hb hby hd) hl st, r⟩
theorem own_lstore (M : own_Mx Z a0 K code own mx ret rm) (X : own_Sx n0 K T h cl sl) {k : Nat} {v : Int64} (hd : decode code pc = .ok (.lstore k, 2)) (hl : storeLocals L k (.long v) = some L') (hp : pc + 2 = pc') (hr : own_Fin n0 K P T pc' L' (S)) : own_Fin n0 K P T pc L (.long v :: S) := by
  obtain ⟨p, l, e, R, s, m, args, below, meth, c⟩ := K
  obtain ⟨hx, hby, hml, hown, hret, hlk, hZ, rfl, hw⟩ := M
  obtain ⟨locs, X, hN, eT, hn, hcl, hsl⟩ := X
  obtain ⟨s2, o2, st, r⟩ := hr
  subst hp
  exact ⟨s2, o2, XS.lstore X.here hx rfl (hb hby hd) rfl hl st, r⟩
theorem own_lstoreN (M : own_Mx Z a0 K code own mx ret rm) (X : own_Sx n0 K T h cl sl) {k : Fin 4} {v : Int64} (hd : decode code pc = .ok (.lstore_n k, 1)) (hl : storeLocals L k.val (.long v) = some L') (hp : pc + 1 = pc') (hr : own_Fin n0 K P T pc' L' (S)) : own_Fin n0 K P T pc L (.long v :: S) := by
  obtain ⟨p, l, e, R, s, m, args, below, meth, c⟩ := K
  obtain ⟨hx, hby, hml, hown, hret, hlk, hZ, rfl, hw⟩ := M
  obtain ⟨locs, X, hN, eT, hn, hcl, hsl⟩ := X
  obtain ⟨s2, o2, st, r⟩ := hr
  subst hp
  exact ⟨s2, o2, XS.lstoreN X.here hx rfl (hb hby hd) rfl hl st, r⟩
theorem own_aload (M : own_Mx Z a0 K code own mx ret rm) (X : own_Sx n0 K T h cl sl) {k : Nat} {v : Value} (hd : decode code pc = .ok (.aload k, 2)) (hl : L[k]? = some (.val v)) (hv : v.isRef = true) (hp : pc + 2 = pc') (hr : own_Fin n0 K P T pc' L (v :: S)) : own_Fin n0 K P T pc L (S) := by
  obtain ⟨p, l, e, R, s, m, args, below, meth, c⟩ := K
  obtain ⟨hx, hby, hml, hown, hret, hlk, hZ, rfl, hw⟩ := M
  obtain ⟨locs, X, hN, eT, hn, hcl, hsl⟩ := X
  obtain ⟨s2, o2, st, r⟩ := hr
  subst hp
  exact ⟨s2, o2, XS.aload X.here hx rfl (hb hby hd) hl hv st, r⟩
theorem own_aloadN (M : own_Mx Z a0 K code own mx ret rm) (X : own_Sx n0 K T h cl sl) {k : Fin 4} {v : Value} (hd : decode code pc = .ok (.aload_n k, 1)) (hl : L[k.val]? = some (.val v)) (hv : v.isRef = true) (hp : pc + 1 = pc') (hr : own_Fin n0 K P T pc' L (v :: S)) : own_Fin n0 K P T pc L (S) := by
  obtain ⟨p, l, e, R, s, m, args, below, meth, c⟩ := K
  obtain ⟨hx, hby, hml, hown, hret, hlk, hZ, rfl, hw⟩ := M
  obtain ⟨locs, X, hN, eT, hn, hcl, hsl⟩ := X
  obtain ⟨s2, o2, st, r⟩ := hr
  subst hp
  exact ⟨s2, o2, XS.aloadN X.here hx rfl (hb hby hd) hl hv st, r⟩
theorem own_astore (M : own_Mx Z a0 K code own mx ret rm) (X : own_Sx n0 K T h cl sl) {k : Nat} {v : Value} (hd : decode code pc = .ok (.astore k, 2)) (hv : v.isRef = true) (hl : storeLocals L k v = some L') (hp : pc + 2 = pc') (hr : own_Fin n0 K P T pc' L' (S)) : own_Fin n0 K P T pc L (v :: S) := by
  obtain ⟨p, l, e, R, s, m, args, below, meth, c⟩ := K
  obtain ⟨hx, hby, hml, hown, hret, hlk, hZ, rfl, hw⟩ := M
  obtain ⟨locs, X, hN, eT, hn, hcl, hsl⟩ := X
  obtain ⟨s2, o2, st, r⟩ := hr
  subst hp
  exact ⟨s2, o2, XS.astore X.here hx rfl (hb hby hd) rfl hv hl st, r⟩
theorem own_astoreN (M : own_Mx Z a0 K code own mx ret rm) (X : own_Sx n0 K T h cl sl) {k : Fin 4} {v : Value} (hd : decode code pc = .ok (.astore_n k, 1)) (hv : v.isRef = true) (hl : storeLocals L k.val v = some L') (hp : pc + 1 = pc') (hr : own_Fin n0 K P T pc' L' (S)) : own_Fin n0 K P T pc L (v :: S) := by
  obtain ⟨p, l, e, R, s, m, args, below, meth, c⟩ := K
  obtain ⟨hx, hby, hml, hown, hret, hlk, hZ, rfl, hw⟩ := M
  obtain ⟨locs, X, hN, eT, hn, hcl, hsl⟩ := X
  obtain ⟨s2, o2, st, r⟩ := hr
  subst hp
  exact ⟨s2, o2, XS.astoreN X.here hx rfl (hb hby hd) rfl hv hl st, r⟩
theorem own_iconst (M : own_Mx Z a0 K code own mx ret rm) (X : own_Sx n0 K T h cl sl) {i : Int} {v : Int32} (hd : decode code pc = .ok (.iconst i, 1)) (hv : Int32.ofInt i = v) (hp : pc + 1 = pc') (hr : own_Fin n0 K P T pc' L (.int v :: S)) : own_Fin n0 K P T pc L (S) := by
  obtain ⟨p, l, e, R, s, m, args, below, meth, c⟩ := K
  obtain ⟨hx, hby, hml, hown, hret, hlk, hZ, rfl, hw⟩ := M
  obtain ⟨locs, X, hN, eT, hn, hcl, hsl⟩ := X
  obtain ⟨s2, o2, st, r⟩ := hr
  subst hp
  subst hv
  exact ⟨s2, o2, XS.iconst X.here hx rfl (hb hby hd) st, r⟩
theorem own_bipush (M : own_Mx Z a0 K code own mx ret rm) (X : own_Sx n0 K T h cl sl) {i : Int} {v : Int32} (hd : decode code pc = .ok (.bipush i, 2)) (hv : (Int8.ofInt i).toInt32 = v) (hp : pc + 2 = pc') (hr : own_Fin n0 K P T pc' L (.int v :: S)) : own_Fin n0 K P T pc L (S) := by
  obtain ⟨p, l, e, R, s, m, args, below, meth, c⟩ := K
  obtain ⟨hx, hby, hml, hown, hret, hlk, hZ, rfl, hw⟩ := M
  obtain ⟨locs, X, hN, eT, hn, hcl, hsl⟩ := X
  obtain ⟨s2, o2, st, r⟩ := hr
  subst hp
  subst hv
  exact ⟨s2, o2, XS.bipush X.here hx rfl (hb hby hd) st, r⟩
theorem own_sipush (M : own_Mx Z a0 K code own mx ret rm) (X : own_Sx n0 K T h cl sl) {i : Int} {v : Int32} (hd : decode code pc = .ok (.sipush i, 3)) (hv : (Int16.ofInt i).toInt32 = v) (hp : pc + 3 = pc') (hr : own_Fin n0 K P T pc' L (.int v :: S)) : own_Fin n0 K P T pc L (S) := by
  obtain ⟨p, l, e, R, s, m, args, below, meth, c⟩ := K
  obtain ⟨hx, hby, hml, hown, hret, hlk, hZ, rfl, hw⟩ := M
  obtain ⟨locs, X, hN, eT, hn, hcl, hsl⟩ := X
  obtain ⟨s2, o2, st, r⟩ := hr
  subst hp
  subst hv
  exact ⟨s2, o2, XS.sipush X.here hx rfl (hb hby hd) st, r⟩
theorem own_lconst (M : own_Mx Z a0 K code own mx ret rm) (X : own_Sx n0 K T h cl sl) {i : Fin 2} {v : Int64} (hd : decode code pc = .ok (.lconst i, 1)) (hv : Int64.ofNat i = v) (hp : pc + 1 = pc') (hr : own_Fin n0 K P T pc' L (.long v :: S)) : own_Fin n0 K P T pc L (S) := by
  obtain ⟨p, l, e, R, s, m, args, below, meth, c⟩ := K
  obtain ⟨hx, hby, hml, hown, hret, hlk, hZ, rfl, hw⟩ := M
  obtain ⟨locs, X, hN, eT, hn, hcl, hsl⟩ := X
  obtain ⟨s2, o2, st, r⟩ := hr
  subst hp
  subst hv
  exact ⟨s2, o2, XS.lconst X.here hx rfl (hb hby hd) st, r⟩
theorem own_aconst_null (M : own_Mx Z a0 K code own mx ret rm) (X : own_Sx n0 K T h cl sl)  (hd : decode code pc = .ok (.aconst_null, 1)) (hp : pc + 1 = pc') (hr : own_Fin n0 K P T pc' L (.null :: S)) : own_Fin n0 K P T pc L (S) := by
  obtain ⟨p, l, e, R, s, m, args, below, meth, c⟩ := K
  obtain ⟨hx, hby, hml, hown, hret, hlk, hZ, rfl, hw⟩ := M
  obtain ⟨locs, X, hN, eT, hn, hcl, hsl⟩ := X
  obtain ⟨s2, o2, st, r⟩ := hr
  subst hp
  exact ⟨s2, o2, XS.aconstNull X.here hx rfl (hb hby hd) st, r⟩
theorem own_iadd (M : own_Mx Z a0 K code own mx ret rm) (X : own_Sx n0 K T h cl sl) {x y : Int32} (hd : decode code pc = .ok (.iadd, 1)) (hp : pc + 1 = pc') (hr : own_Fin n0 K P T pc' L (.int (x + y) :: S)) : own_Fin n0 K P T pc L (.int y :: .int x :: S) := by
  obtain ⟨p, l, e, R, s, m, args, below, meth, c⟩ := K
  obtain ⟨hx, hby, hml, hown, hret, hlk, hZ, rfl, hw⟩ := M
  obtain ⟨locs, X, hN, eT, hn, hcl, hsl⟩ := X
  obtain ⟨s2, o2, st, r⟩ := hr
  subst hp
  exact ⟨s2, o2, XS.iadd X.here hx rfl (hb hby hd) rfl st, r⟩
theorem own_ladd (M : own_Mx Z a0 K code own mx ret rm) (X : own_Sx n0 K T h cl sl) {x y : Int64} (hd : decode code pc = .ok (.ladd, 1)) (hp : pc + 1 = pc') (hr : own_Fin n0 K P T pc' L (.long (x + y) :: S)) : own_Fin n0 K P T pc L (.long y :: .long x :: S) := by
  obtain ⟨p, l, e, R, s, m, args, below, meth, c⟩ := K
  obtain ⟨hx, hby, hml, hown, hret, hlk, hZ, rfl, hw⟩ := M
  obtain ⟨locs, X, hN, eT, hn, hcl, hsl⟩ := X
  obtain ⟨s2, o2, st, r⟩ := hr
  subst hp
  exact ⟨s2, o2, XS.ladd X.here hx rfl (hb hby hd) rfl st, r⟩
theorem own_isub (M : own_Mx Z a0 K code own mx ret rm) (X : own_Sx n0 K T h cl sl) {x y : Int32} (hd : decode code pc = .ok (.isub, 1)) (hp : pc + 1 = pc') (hr : own_Fin n0 K P T pc' L (.int (x - y) :: S)) : own_Fin n0 K P T pc L (.int y :: .int x :: S) := by
  obtain ⟨p, l, e, R, s, m, args, below, meth, c⟩ := K
  obtain ⟨hx, hby, hml, hown, hret, hlk, hZ, rfl, hw⟩ := M
  obtain ⟨locs, X, hN, eT, hn, hcl, hsl⟩ := X
  obtain ⟨s2, o2, st, r⟩ := hr
  subst hp
  exact ⟨s2, o2, XS.isub X.here hx rfl (hb hby hd) rfl st, r⟩
theorem own_lsub (M : own_Mx Z a0 K code own mx ret rm) (X : own_Sx n0 K T h cl sl) {x y : Int64} (hd : decode code pc = .ok (.lsub, 1)) (hp : pc + 1 = pc') (hr : own_Fin n0 K P T pc' L (.long (x - y) :: S)) : own_Fin n0 K P T pc L (.long y :: .long x :: S) := by
  obtain ⟨p, l, e, R, s, m, args, below, meth, c⟩ := K
  obtain ⟨hx, hby, hml, hown, hret, hlk, hZ, rfl, hw⟩ := M
  obtain ⟨locs, X, hN, eT, hn, hcl, hsl⟩ := X
  obtain ⟨s2, o2, st, r⟩ := hr
  subst hp
  exact ⟨s2, o2, XS.lsub X.here hx rfl (hb hby hd) rfl st, r⟩
theorem own_imul (M : own_Mx Z a0 K code own mx ret rm) (X : own_Sx n0 K T h cl sl) {x y : Int32} (hd : decode code pc = .ok (.imul, 1)) (hp : pc + 1 = pc') (hr : own_Fin n0 K P T pc' L (.int (x * y) :: S)) : own_Fin n0 K P T pc L (.int y :: .int x :: S) := by
  obtain ⟨p, l, e, R, s, m, args, below, meth, c⟩ := K
  obtain ⟨hx, hby, hml, hown, hret, hlk, hZ, rfl, hw⟩ := M
  obtain ⟨locs, X, hN, eT, hn, hcl, hsl⟩ := X
  obtain ⟨s2, o2, st, r⟩ := hr
  subst hp
  exact ⟨s2, o2, XS.imul X.here hx rfl (hb hby hd) rfl st, r⟩
theorem own_lmul (M : own_Mx Z a0 K code own mx ret rm) (X : own_Sx n0 K T h cl sl) {x y : Int64} (hd : decode code pc = .ok (.lmul, 1)) (hp : pc + 1 = pc') (hr : own_Fin n0 K P T pc' L (.long (x * y) :: S)) : own_Fin n0 K P T pc L (.long y :: .long x :: S) := by
  obtain ⟨p, l, e, R, s, m, args, below, meth, c⟩ := K
  obtain ⟨hx, hby, hml, hown, hret, hlk, hZ, rfl, hw⟩ := M
  obtain ⟨locs, X, hN, eT, hn, hcl, hsl⟩ := X
  obtain ⟨s2, o2, st, r⟩ := hr
  subst hp
  exact ⟨s2, o2, XS.lmul X.here hx rfl (hb hby hd) rfl st, r⟩
theorem own_iand (M : own_Mx Z a0 K code own mx ret rm) (X : own_Sx n0 K T h cl sl) {x y : Int32} (hd : decode code pc = .ok (.iand, 1)) (hp : pc + 1 = pc') (hr : own_Fin n0 K P T pc' L (.int (x &&& y) :: S)) : own_Fin n0 K P T pc L (.int y :: .int x :: S) := by
  obtain ⟨p, l, e, R, s, m, args, below, meth, c⟩ := K
  obtain ⟨hx, hby, hml, hown, hret, hlk, hZ, rfl, hw⟩ := M
  obtain ⟨locs, X, hN, eT, hn, hcl, hsl⟩ := X
  obtain ⟨s2, o2, st, r⟩ := hr
  subst hp
  exact ⟨s2, o2, XS.iand X.here hx rfl (hb hby hd) rfl st, r⟩
theorem own_land (M : own_Mx Z a0 K code own mx ret rm) (X : own_Sx n0 K T h cl sl) {x y : Int64} (hd : decode code pc = .ok (.land, 1)) (hp : pc + 1 = pc') (hr : own_Fin n0 K P T pc' L (.long (x &&& y) :: S)) : own_Fin n0 K P T pc L (.long y :: .long x :: S) := by
  obtain ⟨p, l, e, R, s, m, args, below, meth, c⟩ := K
  obtain ⟨hx, hby, hml, hown, hret, hlk, hZ, rfl, hw⟩ := M
  obtain ⟨locs, X, hN, eT, hn, hcl, hsl⟩ := X
  obtain ⟨s2, o2, st, r⟩ := hr
  subst hp
  exact ⟨s2, o2, XS.land X.here hx rfl (hb hby hd) rfl st, r⟩
theorem own_ior (M : own_Mx Z a0 K code own mx ret rm) (X : own_Sx n0 K T h cl sl) {x y : Int32} (hd : decode code pc = .ok (.ior, 1)) (hp : pc + 1 = pc') (hr : own_Fin n0 K P T pc' L (.int (x ||| y) :: S)) : own_Fin n0 K P T pc L (.int y :: .int x :: S) := by
  obtain ⟨p, l, e, R, s, m, args, below, meth, c⟩ := K
  obtain ⟨hx, hby, hml, hown, hret, hlk, hZ, rfl, hw⟩ := M
  obtain ⟨locs, X, hN, eT, hn, hcl, hsl⟩ := X
  obtain ⟨s2, o2, st, r⟩ := hr
  subst hp
  exact ⟨s2, o2, XS.ior X.here hx rfl (hb hby hd) rfl st, r⟩
theorem own_lor (M : own_Mx Z a0 K code own mx ret rm) (X : own_Sx n0 K T h cl sl) {x y : Int64} (hd : decode code pc = .ok (.lor, 1)) (hp : pc + 1 = pc') (hr : own_Fin n0 K P T pc' L (.long (x ||| y) :: S)) : own_Fin n0 K P T pc L (.long y :: .long x :: S) := by
  obtain ⟨p, l, e, R, s, m, args, below, meth, c⟩ := K
  obtain ⟨hx, hby, hml, hown, hret, hlk, hZ, rfl, hw⟩ := M
  obtain ⟨locs, X, hN, eT, hn, hcl, hsl⟩ := X
  obtain ⟨s2, o2, st, r⟩ := hr
  subst hp
  exact ⟨s2, o2, XS.lor X.here hx rfl (hb hby hd) rfl st, r⟩
theorem own_ixor (M : own_Mx Z a0 K code own mx ret rm) (X : own_Sx n0 K T h cl sl) {x y : Int32} (hd : decode code pc = .ok (.ixor, 1)) (hp : pc + 1 = pc') (hr : own_Fin n0 K P T pc' L (.int (x ^^^ y) :: S)) : own_Fin n0 K P T pc L (.int y :: .int x :: S) := by
  obtain ⟨p, l, e, R, s, m, args, below, meth, c⟩ := K
  obtain ⟨hx, hby, hml, hown, hret, hlk, hZ, rfl, hw⟩ := M
  obtain ⟨locs, X, hN, eT, hn, hcl, hsl⟩ := X
  obtain ⟨s2, o2, st, r⟩ := hr
  subst hp
  exact ⟨s2, o2, XS.ixor X.here hx rfl (hb hby hd) rfl st, r⟩
theorem own_lxor (M : own_Mx Z a0 K code own mx ret rm) (X : own_Sx n0 K T h cl sl) {x y : Int64} (hd : decode code pc = .ok (.lxor, 1)) (hp : pc + 1 = pc') (hr : own_Fin n0 K P T pc' L (.long (x ^^^ y) :: S)) : own_Fin n0 K P T pc L (.long y :: .long x :: S) := by
  obtain ⟨p, l, e, R, s, m, args, below, meth, c⟩ := K
  obtain ⟨hx, hby, hml, hown, hret, hlk, hZ, rfl, hw⟩ := M
  obtain ⟨locs, X, hN, eT, hn, hcl, hsl⟩ := X
  obtain ⟨s2, o2, st, r⟩ := hr
  subst hp
  exact ⟨s2, o2, XS.lxor X.here hx rfl (hb hby hd) rfl st, r⟩
theorem own_ishl (M : own_Mx Z a0 K code own mx ret rm) (X : own_Sx n0 K T h cl sl) {x y : Int32} (hd : decode code pc = .ok (.ishl, 1)) (hp : pc + 1 = pc') (hr : own_Fin n0 K P T pc' L (.int (x <<< (y &&& 31)) :: S)) : own_Fin n0 K P T pc L (.int y :: .int x :: S) := by
  obtain ⟨p, l, e, R, s, m, args, below, meth, c⟩ := K
  obtain ⟨hx, hby, hml, hown, hret, hlk, hZ, rfl, hw⟩ := M
  obtain ⟨locs, X, hN, eT, hn, hcl, hsl⟩ := X
  obtain ⟨s2, o2, st, r⟩ := hr
  subst hp
  exact ⟨s2, o2, XS.ishl X.here hx rfl (hb hby hd) rfl st, r⟩
theorem own_ishr (M : own_Mx Z a0 K code own mx ret rm) (X : own_Sx n0 K T h cl sl) {x y : Int32} (hd : decode code pc = .ok (.ishr, 1)) (hp : pc + 1 = pc') (hr : own_Fin n0 K P T pc' L (.int (x >>> (y &&& 31)) :: S)) : own_Fin n0 K P T pc L (.int y :: .int x :: S) := by
  obtain ⟨p, l, e, R, s, m, args, below, meth, c⟩ := K
  obtain ⟨hx, hby, hml, hown, hret, hlk, hZ, rfl, hw⟩ := M
  obtain ⟨locs, X, hN, eT, hn, hcl, hsl⟩ := X
  obtain ⟨s2, o2, st, r⟩ := hr
  subst hp
  exact ⟨s2, o2, XS.ishr X.here hx rfl (hb hby hd) rfl st, r⟩
theorem own_iushr (M : own_Mx Z a0 K code own mx ret rm) (X : own_Sx n0 K T h cl sl) {x y : Int32} (hd : decode code pc = .ok (.iushr, 1)) (hp : pc + 1 = pc') (hr : own_Fin n0 K P T pc' L (.int ((x.toUInt32 >>> (y &&& 31).toUInt32).toInt32) :: S)) : own_Fin n0 K P T pc L (.int y :: .int x :: S) := by
  obtain ⟨p, l, e, R, s, m, args, below, meth, c⟩ := K
  obtain ⟨hx, hby, hml, hown, hret, hlk, hZ, rfl, hw⟩ := M
  obtain ⟨locs, X, hN, eT, hn, hcl, hsl⟩ := X
  obtain ⟨s2, o2, st, r⟩ := hr
  subst hp
  exact ⟨s2, o2, XS.iushr X.here hx rfl (hb hby hd) rfl st, r⟩
theorem own_lshl (M : own_Mx Z a0 K code own mx ret rm) (X : own_Sx n0 K T h cl sl) {x : Int64} {y : Int32} (hd : decode code pc = .ok (.lshl, 1)) (hp : pc + 1 = pc') (hr : own_Fin n0 K P T pc' L (.long (x <<< (y &&& 0x3f).toInt64) :: S)) : own_Fin n0 K P T pc L (.int y :: .long x :: S) := by
  obtain ⟨p, l, e, R, s, m, args, below, meth, c⟩ := K
  obtain ⟨hx, hby, hml, hown, hret, hlk, hZ, rfl, hw⟩ := M
  obtain ⟨locs, X, hN, eT, hn, hcl, hsl⟩ := X
  obtain ⟨s2, o2, st, r⟩ := hr
  subst hp
  exact ⟨s2, o2, XS.lshl X.here hx rfl (hb hby hd) rfl st, r⟩
theorem own_lshr (M : own_Mx Z a0 K code own mx ret rm) (X : own_Sx n0 K T h cl sl) {x : Int64} {y : Int32} (hd : decode code pc = .ok (.lshr, 1)) (hp : pc + 1 = pc') (hr : own_Fin n0 K P T pc' L (.long (x >>> (y &&& 0x3f).toInt64) :: S)) : own_Fin n0 K P T pc L (.int y :: .long x :: S) := by
  obtain ⟨p, l, e, R, s, m, args, below, meth, c⟩ := K
  obtain ⟨hx, hby, hml, hown, hret, hlk, hZ, rfl, hw⟩ := M
  obtain ⟨locs, X, hN, eT, hn, hcl, hsl⟩ := X
  obtain ⟨s2, o2, st, r⟩ := hr
  subst hp
  exact ⟨s2, o2, XS.lshr X.here hx rfl (hb hby hd) rfl st, r⟩
theorem own_lushr (M : own_Mx Z a0 K code own mx ret rm) (X : own_Sx n0 K T h cl sl) {x : Int64} {y : Int32} (hd : decode code pc = .ok (.lushr, 1)) (hp : pc + 1 = pc') (hr : own_Fin n0 K P T pc' L (.long ((x.toUInt64 >>> (y &&& 0x3f).toInt64.toUInt64).toInt64) :: S)) : own_Fin n0 K P T pc L (.int y :: .long x :: S) := by
  obtain ⟨p, l, e, R, s, m, args, below, meth, c⟩ := K
  obtain ⟨hx, hby, hml, hown, hret, hlk, hZ, rfl, hw⟩ := M
  obtain ⟨locs, X, hN, eT, hn, hcl, hsl⟩ := X
  obtain ⟨s2, o2, st, r⟩ := hr
  subst hp
  exact ⟨s2, o2, XS.lushr X.here hx rfl (hb hby hd) rfl st, r⟩
theorem own_idiv (M : own_Mx Z a0 K code own mx ret rm) (X : own_Sx n0 K T h cl sl) {x y : Int32} (hd : decode code pc = .ok (.idiv, 1)) (hy : y ≠ 0) (hp : pc + 1 = pc') (hr : own_Fin n0 K P T pc' L (.int (x / y) :: S)) : own_Fin n0 K P T pc L (.int y :: .int x :: S) := by
  obtain ⟨p, l, e, R, s, m, args, below, meth, c⟩ := K
  obtain ⟨hx, hby, hml, hown, hret, hlk, hZ, rfl, hw⟩ := M
  obtain ⟨locs, X, hN, eT, hn, hcl, hsl⟩ := X
  obtain ⟨s2, o2, st, r⟩ := hr
  subst hp
  exact ⟨s2, o2, XS.idiv X.here hx rfl (hb hby hd) rfl hy st, r⟩
theorem own_irem (M : own_Mx Z a0 K code own mx ret rm) (X : own_Sx n0 K T h cl sl) {x y : Int32} (hd : decode code pc = .ok (.irem, 1)) (hy : y ≠ 0) (hp : pc + 1 = pc') (hr : own_Fin n0 K P T pc' L (.int (x % y) :: S)) : own_Fin n0 K P T pc L (.int y :: .int x :: S) := by
  obtain ⟨p, l, e, R, s, m, args, below, meth, c⟩ := K
  obtain ⟨hx, hby, hml, hown, hret, hlk, hZ, rfl, hw⟩ := M
  obtain ⟨locs, X, hN, eT, hn, hcl, hsl⟩ := X
  obtain ⟨s2, o2, st, r⟩ := hr
  subst hp
  exact ⟨s2, o2, iremM X hx rfl (hb hby hd) rfl hy st, r⟩
theorem own_ldiv (M : own_Mx Z a0 K code own mx ret rm) (X : own_Sx n0 K T h cl sl) {x y : Int64} (hd : decode code pc = .ok (.ldiv, 1)) (hy : y ≠ 0) (hp : pc + 1 = pc') (hr : own_Fin n0 K P T pc' L (.long (x / y) :: S)) : own_Fin n0 K P T pc L (.long y :: .long x :: S) := by
  obtain ⟨p, l, e, R, s, m, args, below, meth, c⟩ := K
  obtain ⟨hx, hby, hml, hown, hret, hlk, hZ, rfl, hw⟩ := M
  obtain ⟨locs, X, hN, eT, hn, hcl, hsl⟩ := X
  obtain ⟨s2, o2, st, r⟩ := hr
  subst hp
  exact ⟨s2, o2, XS.ldiv X.here hx rfl (hb hby hd) rfl hy st, r⟩
theorem own_lrem (M : own_Mx Z a0 K code own mx ret rm) (X : own_Sx n0 K T h cl sl) {x y : Int64} (hd : decode code pc = .ok (.lrem, 1)) (hy : y ≠ 0) (hp : pc + 1 = pc') (hr : own_Fin n0 K P T pc' L (.long (x - (x / y) * y) :: S)) : own_Fin n0 K P T pc L (.long y :: .long x :: S) := by
  obtain ⟨p, l, e, R, s, m, args, below, meth, c⟩ := K
  obtain ⟨hx, hby, hml, hown, hret, hlk, hZ, rfl, hw⟩ := M
  obtain ⟨locs, X, hN, eT, hn, hcl, hsl⟩ := X
  obtain ⟨s2, o2, st, r⟩ := hr
  subst hp
  exact ⟨s2, o2, XS.lrem X.here hx rfl (hb hby hd) rfl hy st, r⟩
theorem own_ineg (M : own_Mx Z a0 K code own mx ret rm) (X : own_Sx n0 K T h cl sl) {x : Int32} (hd : decode code pc = .ok (.ineg, 1)) (hp : pc + 1 = pc') (hr : own_Fin n0 K P T pc' L (.int (-x) :: S)) : own_Fin n0 K P T pc L (.int x :: S) := by
  obtain ⟨p, l, e, R, s, m, args, below, meth, c⟩ := K
  obtain ⟨hx, hby, hml, hown, hret, hlk, hZ, rfl, hw⟩ := M
  obtain ⟨locs, X, hN, eT, hn, hcl, hsl⟩ := X
  obtain ⟨s2, o2, st, r⟩ := hr
  subst hp
  exact ⟨s2, o2, XS.ineg X.here hx rfl (hb hby hd) rfl st, r⟩
theorem own_lneg (M : own_Mx Z a0 K code own mx ret rm) (X : own_Sx n0 K T h cl sl) {x : Int64} (hd : decode code pc = .ok (.lneg, 1)) (hp : pc + 1 = pc') (hr : own_Fin n0 K P T pc' L (.long (-x) :: S)) : own_Fin n0 K P T pc L (.long x :: S) := by
  obtain ⟨p, l, e, R, s, m, args, below, meth, c⟩ := K
  obtain ⟨hx, hby, hml, hown, hret, hlk, hZ, rfl, hw⟩ := M
  obtain ⟨locs, X, hN, eT, hn, hcl, hsl⟩ := X
  obtain ⟨s2, o2, st, r⟩ := hr
  subst hp
  exact ⟨s2, o2, XS.lneg X.here hx rfl (hb hby hd) rfl st, r⟩
theorem own_i2l (M : own_Mx Z a0 K code own mx ret rm) (X : own_Sx n0 K T h cl sl) {x : Int32} (hd : decode code pc = .ok (.i2l, 1)) (hp : pc + 1 = pc') (hr : own_Fin n0 K P T pc' L (.long (x.toInt64) :: S)) : own_Fin n0 K P T pc L (.int x :: S) := by
  obtain ⟨p, l, e, R, s, m, args, below, meth, c⟩ := K
  obtain ⟨hx, hby, hml, hown, hret, hlk, hZ, rfl, hw⟩ := M
  obtain ⟨locs, X, hN, eT, hn, hcl, hsl⟩ := X
  obtain ⟨s2, o2, st, r⟩ := hr
  subst hp
  exact ⟨s2, o2, XS.i2l X.here hx rfl (hb hby hd) rfl st, r⟩
theorem own_l2i (M : own_Mx Z a0 K code own mx ret rm) (X : own_Sx n0 K T h cl sl) {x : Int64} (hd : decode code pc = .ok (.l2i, 1)) (hp : pc + 1 = pc') (hr : own_Fin n0 K P T pc' L (.int (x.toInt32) :: S)) : own_Fin n0 K P T pc L (.long x :: S) := by
  obtain ⟨p, l, e, R, s, m, args, below, meth, c⟩ := K
  obtain ⟨hx, hby, hml, hown, hret, hlk, hZ, rfl, hw⟩ := M
  obtain ⟨locs, X, hN, eT, hn, hcl, hsl⟩ := X
  obtain ⟨s2, o2, st, r⟩ := hr
  subst hp
  exact ⟨s2, o2, XS.l2i X.here hx rfl (hb hby hd) rfl st, r⟩
theorem own_i2b (M : own_Mx Z a0 K code own mx ret rm) (X : own_Sx n0 K T h cl sl) {x : Int32} (hd : decode code pc = .ok (.i2b, 1)) (hp : pc + 1 = pc') (hr : own_Fin n0 K P T pc' L (.int (x.toInt8.toInt32) :: S)) : own_Fin n0 K P T pc L (.int x :: S) := by
  obtain ⟨p, l, e, R, s, m, args, below, meth, c⟩ := K
  obtain ⟨hx, hby, hml, hown, hret, hlk, hZ, rfl, hw⟩ := M
  obtain ⟨locs, X, hN, eT, hn, hcl, hsl⟩ := X
  obtain ⟨s2, o2, st, r⟩ := hr
  subst hp
  exact ⟨s2, o2, XS.i2b X.here hx rfl (hb hby hd) rfl st, r⟩
theorem own_i2s (M : own_Mx Z a0 K code own mx ret rm) (X : own_Sx n0 K T h cl sl) {x : Int32} (hd : decode code pc = .ok (.i2s, 1)) (hp : pc + 1 = pc') (hr : own_Fin n0 K P T pc' L (.int (x.toInt16.toInt32) :: S)) : own_Fin n0 K P T pc L (.int x :: S) := by
  obtain ⟨p, l, e, R, s, m, args, below, meth, c⟩ := K
  obtain ⟨hx, hby, hml, hown, hret, hlk, hZ, rfl, hw⟩ := M
  obtain ⟨locs, X, hN, eT, hn, hcl, hsl⟩ := X
  obtain ⟨s2, o2, st, r⟩ := hr
  subst hp
  exact ⟨s2, o2, XS.i2s X.here hx rfl (hb hby hd) rfl st, r⟩
theorem own_i2c (M : own_Mx Z a0 K code own mx ret rm) (X : own_Sx n0 K T h cl sl) {x : Int32} (hd : decode code pc = .ok (.i2c, 1)) (hp : pc + 1 = pc') (hr : own_Fin n0 K P T pc' L (.int (x.toUInt32.toUInt16.toUInt32.toInt32) :: S)) : own_Fin n0 K P T pc L (.int x :: S) := by
  obtain ⟨p, l, e, R, s, m, args, below, meth, c⟩ := K
  obtain ⟨hx, hby, hml, hown, hret, hlk, hZ, rfl, hw⟩ := M
  obtain ⟨locs, X, hN, eT, hn, hcl, hsl⟩ := X
  obtain ⟨s2, o2, st, r⟩ := hr
  subst hp
  exact ⟨s2, o2, XS.i2c X.here hx rfl (hb hby hd) rfl st, r⟩
theorem own_iinc (M : own_Mx Z a0 K code own mx ret rm) (X : own_Sx n0 K T h cl sl) {k : Nat} {i : Int} {x v : Int32} (hd : decode code pc = .ok (.iinc k i, 3)) (hl : L[k]? = some (.val (.int x))) (hv : x + Int32.ofInt i = v) (hl' : storeLocals L k (.int v) = some L') (hp : pc + 3 = pc') (hr : own_Fin n0 K P T pc' L' (S)) : own_Fin n0 K P T pc L (S) := by
  obtain ⟨p, l, e, R, s, m, args, below, meth, c⟩ := K
  obtain ⟨hx, hby, hml, hown, hret, hlk, hZ, rfl, hw⟩ := M
  obtain ⟨locs, X, hN, eT, hn, hcl, hsl⟩ := X
  obtain ⟨s2, o2, st, r⟩ := hr
  subst hp
  subst hv
  exact ⟨s2, o2, XS.iinc X.here hx rfl (hb hby hd) hl hl' st, r⟩
theorem own_dup (M : own_Mx Z a0 K code own mx ret rm) (X : own_Sx n0 K T h cl sl) {v : Value} (hd : decode code pc = .ok (.dup, 1)) (hc : v.category = 1) (hp : pc + 1 = pc') (hr : own_Fin n0 K P T pc' L (v :: v :: S)) : own_Fin n0 K P T pc L (v :: S) := by
  obtain ⟨p, l, e, R, s, m, args, below, meth, c⟩ := K
  obtain ⟨hx, hby, hml, hown, hret, hlk, hZ, rfl, hw⟩ := M
  obtain ⟨locs, X, hN, eT, hn, hcl, hsl⟩ := X
  obtain ⟨s2, o2, st, r⟩ := hr
  subst hp
  exact ⟨s2, o2, XS.dup X.here hx rfl (hb hby hd) rfl hc st, r⟩
theorem own_pop (M : own_Mx Z a0 K code own mx ret rm) (X : own_Sx n0 K T h cl sl) {v : Value} (hd : decode code pc = .ok (.pop, 1)) (hc : v.category = 1) (hp : pc + 1 = pc') (hr : own_Fin n0 K P T pc' L (S)) : own_Fin n0 K P T pc L (v :: S) := by
  obtain ⟨p, l, e, R, s, m, args, below, meth, c⟩ := K
  obtain ⟨hx, hby, hml, hown, hret, hlk, hZ, rfl, hw⟩ := M
  obtain ⟨locs, X, hN, eT, hn, hcl, hsl⟩ := X
  obtain ⟨s2, o2, st, r⟩ := hr
  subst hp
  exact ⟨s2, o2, XS.pop X.here hx rfl (hb hby hd) rfl hc st, r⟩
theorem own_dup_x1 (M : own_Mx Z a0 K code own mx ret rm) (X : own_Sx n0 K T h cl sl) {v w : Value} (hd : decode code pc = .ok (.dup_x1, 1)) (hc : v.category = 1) (hc' : w.category = 1) (hp : pc + 1 = pc') (hr : own_Fin n0 K P T pc' L (v :: w :: v :: S)) : own_Fin n0 K P T pc L (v :: w :: S) := by
  obtain ⟨p, l, e, R, s, m, args, below, meth, c⟩ := K
  obtain ⟨hx, hby, hml, hown, hret, hlk, hZ, rfl, hw⟩ := M
  obtain ⟨locs, X, hN, eT, hn, hcl, hsl⟩ := X
  obtain ⟨s2, o2, st, r⟩ := hr
  subst hp
  exact ⟨s2, o2, XS.dupX1 X.here hx rfl (hb hby hd) rfl hc hc' st, r⟩
theorem own_dup2 (M : own_Mx Z a0 K code own mx ret rm) (X : own_Sx n0 K T h cl sl) {v w : Value} (hd : decode code pc = .ok (.dup2, 1)) (hc : v.category = 1) (hc' : w.category = 1) (hp : pc + 1 = pc') (hr : own_Fin n0 K P T pc' L (v :: w :: v :: w :: S)) : own_Fin n0 K P T pc L (v :: w :: S) := by
  obtain ⟨p, l, e, R, s, m, args, below, meth, c⟩ := K
  obtain ⟨hx, hby, hml, hown, hret, hlk, hZ, rfl, hw⟩ := M
  obtain ⟨locs, X, hN, eT, hn, hcl, hsl⟩ := X
  obtain ⟨s2, o2, st, r⟩ := hr
  subst hp
  exact ⟨s2, o2, XT.dup2 X.here hx rfl (hb hby hd) rfl hc hc' st, r⟩
theorem own_goto (M : own_Mx Z a0 K code own mx ret rm) (X : own_Sx n0 K T h cl sl) {o : Int} (hd : decode code pc = .ok (.goto o, 3)) (ho : 0 ≤ (pc : Int) + o) (hp : ((pc : Int) + o).toNat = pc') (hr : own_Fin n0 K P T pc' L S) : own_Fin n0 K P T pc L S := by
  obtain ⟨p, l, e, R, s, m, args, below, meth, c⟩ := K
  obtain ⟨hx, hby, hml, hown, hret, hlk, hZ, rfl, hw⟩ := M
  obtain ⟨locs, X, hN, eT, hn, hcl, hsl⟩ := X
  obtain ⟨s2, o2, st, r⟩ := hr
  exact ⟨s2, o2, XS.goto X.here hx rfl (pc0 := pc) rfl (hb hby hd) ho hp st, r⟩
theorem own_ldc (M : own_Mx Z a0 K code own mx ret rm) (X : own_Sx n0 K T h cl sl) {k : Nat} {v : Int32} (w : (Jvm.Cond.constant own k v).before a0 Z = true) (hd : decode code pc = .ok (.ldc k, 2)) (hp : pc + 2 = pc') (hr : own_Fin n0 K P T pc' L (.int v :: S)) : own_Fin n0 K P T pc L (S) := by
  obtain ⟨p, l, e, R, s, m, args, below, meth, c⟩ := K
  obtain ⟨hx, hby, hml, hown, hret, hlk, hZ, rfl, hw⟩ := M
  obtain ⟨locs, X, hN, eT, hn, hcl, hsl⟩ := X
  obtain ⟨s2, o2, st, r⟩ := hr
  subst hp
  exact ⟨s2, o2, X.ldcInt hx hown (mvT hZ w) (g := mkF m pc L S) rfl (hb hby hd) _ st, r⟩
theorem own_ldc_w (M : own_Mx Z a0 K code own mx ret rm) (X : own_Sx n0 K T h cl sl) {k : Nat} {v : Int32} (w : (Jvm.Cond.constant own k v).before a0 Z = true) (hd : decode code pc = .ok (.ldc_w k, 3)) (hp : pc + 3 = pc') (hr : own_Fin n0 K P T pc' L (.int v :: S)) : own_Fin n0 K P T pc L (S) := by
  obtain ⟨p, l, e, R, s, m, args, below, meth, c⟩ := K
  obtain ⟨hx, hby, hml, hown, hret, hlk, hZ, rfl, hw⟩ := M
  obtain ⟨locs, X, hN, eT, hn, hcl, hsl⟩ := X
  obtain ⟨s2, o2, st, r⟩ := hr
  subst hp
  exact ⟨s2, o2, X.ldcwInt hx hown (mvT hZ w) (g := mkF m pc L S) rfl (hb hby hd) _ st, r⟩
theorem own_ldc2_w (M : own_Mx Z a0 K code own mx ret rm) (X : own_Sx n0 K T h cl sl) {k : Nat} {v : Int64} (w : (Jvm.Cond.constantLong own k v).before a0 Z = true) (hd : decode code pc = .ok (.ldc2_w k, 3)) (hp : pc + 3 = pc') (hr : own_Fin n0 K P T pc' L (.long v :: S)) : own_Fin n0 K P T pc L (S) := by
  obtain ⟨p, l, e, R, s, m, args, below, meth, c⟩ := K
  obtain ⟨hx, hby, hml, hown, hret, hlk, hZ, rfl, hw⟩ := M
  obtain ⟨locs, X, hN, eT, hn, hcl, hsl⟩ := X
  obtain ⟨s2, o2, st, r⟩ := hr
  subst hp
  exact ⟨s2, o2, X.ldc2Long hx hown (mvT hZ w) (g := mkF m pc L S) rfl (hb hby hd) _ st, r⟩
theorem own_icmp_lt (M : own_Mx Z a0 K code own mx ret rm) (X : own_Sx n0 K T h cl sl) {x y : Int32} {o : Int} {pcY pcN : Nat} (hd : decode code pc = .ok (.if_icmp .lt o, 3)) (ho : 0 ≤ (pc : Int) + o) (hY : ((pc : Int) + o).toNat = pcY) (hpN : pc + 3 = pcN) (yes : x < y → own_Fin n0 K P T pcY L S) (no : ¬ x < y → own_Fin n0 K P T pcN L S) : own_Fin n0 K P T pc L (.int y :: .int x :: S) := by
  obtain ⟨p, l, e, R, s, m, args, below, meth, c⟩ := K
  obtain ⟨hx, hby, hml, hown, hret, hlk, hZ, rfl, hw⟩ := M
  obtain ⟨locs, X, hN, eT, hn, hcl, hsl⟩ := X
  subst hpN
  by_cases q : x < y
  · obtain ⟨s2, o2, st, r⟩ := yes q
    exact ⟨s2, o2, XS.icmpYes X.here hx rfl (pc0 := pc) rfl (hb hby hd) rfl (tlt q).1 ho hY st, r⟩
  · obtain ⟨s2, o2, st, r⟩ := no q
    exact ⟨s2, o2, XS.icmpNo X.here hx rfl (hb hby hd) rfl (flt q).1 st, r⟩
theorem own_if_lt (M : own_Mx Z a0 K code own mx ret rm) (X : own_Sx n0 K T h cl sl) {x : Int32} {o : Int} {pcY pcN : Nat} (hd : decode code pc = .ok (.ifCond .lt o, 3)) (ho : 0 ≤ (pc : Int) + o) (hY : ((pc : Int) + o).toNat = pcY) (hpN : pc + 3 = pcN) (yes : x < 0 → own_Fin n0 K P T pcY L S) (no : ¬ x < 0 → own_Fin n0 K P T pcN L S) : own_Fin n0 K P T pc L (.int x :: S) := by
  obtain ⟨p, l, e, R, s, m, args, below, meth, c⟩ := K
  obtain ⟨hx, hby, hml, hown, hret, hlk, hZ, rfl, hw⟩ := M
  obtain ⟨locs, X, hN, eT, hn, hcl, hsl⟩ := X
  subst hpN
  by_cases q : x < 0
  · obtain ⟨s2, o2, st, r⟩ := yes q
    exact ⟨s2, o2, XS.ifYes X.here hx rfl (pc0 := pc) rfl (hb hby hd) rfl ((if0 _ _).trans (tlt q).1) ho hY st, r⟩
  · obtain ⟨s2, o2, st, r⟩ := no q
    exact ⟨s2, o2, XS.ifNo X.here hx rfl (hb hby hd) rfl ((if0 _ _).trans (flt q).1) st, r⟩
theorem own_lcmp_lt (M : own_Mx Z a0 K code own mx ret rm) (X : own_Sx n0 K T h cl sl) {x y : Int64} {pc1 : Nat} {o : Int} {pcY pcN : Nat} (hdc : decode code pc = .ok (.lcmp, 1)) (h1 : pc + 1 = pc1) (hd : decode code pc1 = .ok (.ifCond .lt o, 3)) (ho : 0 ≤ (pc1 : Int) + o) (hY : ((pc1 : Int) + o).toNat = pcY) (hpN : pc1 + 3 = pcN) (yes : x < y → own_Fin n0 K P T pcY L S) (no : ¬ x < y → own_Fin n0 K P T pcN L S) : own_Fin n0 K P T pc L (.long y :: .long x :: S) := by
  obtain ⟨p, l, e, R, s, m, args, below, meth, c⟩ := K
  obtain ⟨hx, hby, hml, hown, hret, hlk, hZ, rfl, hw⟩ := M
  obtain ⟨locs, X, hN, eT, hn, hcl, hsl⟩ := X
  subst hpN h1
  by_cases q : x < y
  · obtain ⟨s2, o2, st, r⟩ := yes q
    exact ⟨s2, o2, XS.lcmp X.here hx rfl (hb hby hdc) rfl (XS.ifYes (g := mkF m (pc + 1) L (.int (lcmpW x y) :: S)) X.here hx rfl (pc0 := pc + 1) rfl (hb hby hd) rfl ((if0 _ _).trans (tlt ((lw_lt x y).mpr q)).1) ho hY st), r⟩
  · obtain ⟨s2, o2, st, r⟩ := no q
    exact ⟨s2, o2, XS.lcmp X.here hx rfl (hb hby hdc) rfl (XS.ifNo (g := mkF m (pc + 1) L (.int (lcmpW x y) :: S)) X.here hx rfl (hb hby hd) rfl ((if0 _ _).trans (flt (fun z => q ((lw_lt x y).mp z))).1) st), r⟩
theorem own_icmp_ge (M : own_Mx Z a0 K code own mx ret rm) (X : own_Sx n0 K T h cl sl) {x y : Int32} {o : Int} {pcY pcN : Nat} (hd : decode code pc = .ok (.if_icmp .ge o, 3)) (ho : 0 ≤ (pc : Int) + o) (hY : ((pc : Int) + o).toNat = pcY) (hpN : pc + 3 = pcN) (yes : ¬ x < y → own_Fin n0 K P T pcY L S) (no : x < y → own_Fin n0 K P T pcN L S) : own_Fin n0 K P T pc L (.int y :: .int x :: S) := by
  obtain ⟨p, l, e, R, s, m, args, below, meth, c⟩ := K
  obtain ⟨hx, hby, hml, hown, hret, hlk, hZ, rfl, hw⟩ := M
  obtain ⟨locs, X, hN, eT, hn, hcl, hsl⟩ := X
  subst hpN
  by_cases q : x < y
  · obtain ⟨s2, o2, st, r⟩ := no q
    exact ⟨s2, o2, XS.icmpNo X.here hx rfl (hb hby hd) rfl (tlt q).2.1 st, r⟩
  · obtain ⟨s2, o2, st, r⟩ := yes q
    exact ⟨s2, o2, XS.icmpYes X.here hx rfl (pc0 := pc) rfl (hb hby hd) rfl (flt q).2.1 ho hY st, r⟩
theorem own_if_ge (M : own_Mx Z a0 K code own mx ret rm) (X : own_Sx n0 K T h cl sl) {x : Int32} {o : Int} {pcY pcN : Nat} (hd : decode code pc = .ok (.ifCond .ge o, 3)) (ho : 0 ≤ (pc : Int) + o) (hY : ((pc : Int) + o).toNat = pcY) (hpN : pc + 3 = pcN) (yes : ¬ x < 0 → own_Fin n0 K P T pcY L S) (no : x < 0 → own_Fin n0 K P T pcN L S) : own_Fin n0 K P T pc L (.int x :: S) := by
  obtain ⟨p, l, e, R, s, m, args, below, meth, c⟩ := K
  obtain ⟨hx, hby, hml, hown, hret, hlk, hZ, rfl, hw⟩ := M
  obtain ⟨locs, X, hN, eT, hn, hcl, hsl⟩ := X
  subst hpN
  by_cases q : x < 0
  · obtain ⟨s2, o2, st, r⟩ := no q
    exact ⟨s2, o2, XS.ifNo X.here hx rfl (hb hby hd) rfl ((if0 _ _).trans (tlt q).2.1) st, r⟩
  · obtain ⟨s2, o2, st, r⟩ := yes q
    exact ⟨s2, o2, XS.ifYes X.here hx rfl (pc0 := pc) rfl (hb hby hd) rfl ((if0 _ _).trans (flt q).2.1) ho hY st, r⟩
theorem own_lcmp_ge (M : own_Mx Z a0 K code own mx ret rm) (X : own_Sx n0 K T h cl sl) {x y : Int64} {pc1 : Nat} {o : Int} {pcY pcN : Nat} (hdc : decode code pc = .ok (.lcmp, 1)) (h1 : pc + 1 = pc1) (hd : decode code pc1 = .ok (.ifCond .ge o, 3)) (ho : 0 ≤ (pc1 : Int) + o) (hY : ((pc1 : Int) + o).toNat = pcY) (hpN : pc1 + 3 = pcN) (yes : ¬ x < y → own_Fin n0 K P T pcY L S) (no : x < y → own_Fin n0 K P T pcN L S) : own_Fin n0 K P T pc L (.long y :: .long x :: S) := by
  obtain ⟨p, l, e, R, s, m, args, below, meth, c⟩ := K
  obtain ⟨hx, hby, hml, hown, hret, hlk, hZ, rfl, hw⟩ := M
  obtain ⟨locs, X, hN, eT, hn, hcl, hsl⟩ := X
  subst hpN h1
  by_cases q : x < y
  · obtain ⟨s2, o2, st, r⟩ := no q
    exact ⟨s2, o2, XS.lcmp X.here hx rfl (hb hby hdc) rfl (XS.ifNo (g := mkF m (pc + 1) L (.int (lcmpW x y) :: S)) X.here hx rfl (hb hby hd) rfl ((if0 _ _).trans (tlt ((lw_lt x y).mpr q)).2.1) st), r⟩
  · obtain ⟨s2, o2, st, r⟩ := yes q
    exact ⟨s2, o2, XS.lcmp X.here hx rfl (hb hby hdc) rfl (XS.ifYes (g := mkF m (pc + 1) L (.int (lcmpW x y) :: S)) X.here hx rfl (pc0 := pc + 1) rfl (hb hby hd) rfl ((if0 _ _).trans (flt (fun z => q ((lw_lt x y).mp z))).2.1) ho hY st), r⟩
theorem own_icmp_gt (M : own_Mx Z a0 K code own mx ret rm) (X : own_Sx n0 K T h cl sl) {x y : Int32} {o : Int} {pcY pcN : Nat} (hd : decode code pc = .ok (.if_icmp .gt o, 3)) (ho : 0 ≤ (pc : Int) + o) (hY : ((pc : Int) + o).toNat = pcY) (hpN : pc + 3 = pcN) (yes : y < x → own_Fin n0 K P T pcY L S) (no : ¬ y < x → own_Fin n0 K P T pcN L S) : own_Fin n0 K P T pc L (.int y :: .int x :: S) := by
  obtain ⟨p, l, e, R, s, m, args, below, meth, c⟩ := K
  obtain ⟨hx, hby, hml, hown, hret, hlk, hZ, rfl, hw⟩ := M
  obtain ⟨locs, X, hN, eT, hn, hcl, hsl⟩ := X
  subst hpN
  by_cases q : y < x
  · obtain ⟨s2, o2, st, r⟩ := yes q
    exact ⟨s2, o2, XS.icmpYes X.here hx rfl (pc0 := pc) rfl (hb hby hd) rfl (tlt q).2.2.1 ho hY st, r⟩
  · obtain ⟨s2, o2, st, r⟩ := no q
    exact ⟨s2, o2, XS.icmpNo X.here hx rfl (hb hby hd) rfl (flt q).2.2.1 st, r⟩
theorem own_if_gt (M : own_Mx Z a0 K code own mx ret rm) (X : own_Sx n0 K T h cl sl) {x : Int32} {o : Int} {pcY pcN : Nat} (hd : decode code pc = .ok (.ifCond .gt o, 3)) (ho : 0 ≤ (pc : Int) + o) (hY : ((pc : Int) + o).toNat = pcY) (hpN : pc + 3 = pcN) (yes : 0 < x → own_Fin n0 K P T pcY L S) (no : ¬ 0 < x → own_Fin n0 K P T pcN L S) : own_Fin n0 K P T pc L (.int x :: S) := by
  obtain ⟨p, l, e, R, s, m, args, below, meth, c⟩ := K
  obtain ⟨hx, hby, hml, hown, hret, hlk, hZ, rfl, hw⟩ := M
  obtain ⟨locs, X, hN, eT, hn, hcl, hsl⟩ := X
  subst hpN
  by_cases q : 0 < x
  · obtain ⟨s2, o2, st, r⟩ := yes q
    exact ⟨s2, o2, XS.ifYes X.here hx rfl (pc0 := pc) rfl (hb hby hd) rfl ((if0 _ _).trans (tlt q).2.2.1) ho hY st, r⟩
  · obtain ⟨s2, o2, st, r⟩ := no q
    exact ⟨s2, o2, XS.ifNo X.here hx rfl (hb hby hd) rfl ((if0 _ _).trans (flt q).2.2.1) st, r⟩
theorem own_lcmp_gt (M : own_Mx Z a0 K code own mx ret rm) (X : own_Sx n0 K T h cl sl) {x y : Int64} {pc1 : Nat} {o : Int} {pcY pcN : Nat} (hdc : decode code pc = .ok (.lcmp, 1)) (h1 : pc + 1 = pc1) (hd : decode code pc1 = .ok (.ifCond .gt o, 3)) (ho : 0 ≤ (pc1 : Int) + o) (hY : ((pc1 : Int) + o).toNat = pcY) (hpN : pc1 + 3 = pcN) (yes : y < x → own_Fin n0 K P T pcY L S) (no : ¬ y < x → own_Fin n0 K P T pcN L S) : own_Fin n0 K P T pc L (.long y :: .long x :: S) := by
  obtain ⟨p, l, e, R, s, m, args, below, meth, c⟩ := K
  obtain ⟨hx, hby, hml, hown, hret, hlk, hZ, rfl, hw⟩ := M
  obtain ⟨locs, X, hN, eT, hn, hcl, hsl⟩ := X
  subst hpN h1
  by_cases q : y < x
  · obtain ⟨s2, o2, st, r⟩ := yes q
    exact ⟨s2, o2, XS.lcmp X.here hx rfl (hb hby hdc) rfl (XS.ifYes (g := mkF m (pc + 1) L (.int (lcmpW x y) :: S)) X.here hx rfl (pc0 := pc + 1) rfl (hb hby hd) rfl ((if0 _ _).trans (tlt ((lw_gt x y).mpr q)).2.2.1) ho hY st), r⟩
  · obtain ⟨s2, o2, st, r⟩ := no q
    exact ⟨s2, o2, XS.lcmp X.here hx rfl (hb hby hdc) rfl (XS.ifNo (g := mkF m (pc + 1) L (.int (lcmpW x y) :: S)) X.here hx rfl (hb hby hd) rfl ((if0 _ _).trans (flt (fun z => q ((lw_gt x y).mp z))).2.2.1) st), r⟩
theorem own_icmp_le (M : own_Mx Z a0 K code own mx ret rm) (X : own_Sx n0 K T h cl sl) {x y : Int32} {o : Int} {pcY pcN : Nat} (hd : decode code pc = .ok (.if_icmp .le o, 3)) (ho : 0 ≤ (pc : Int) + o) (hY : ((pc : Int) + o).toNat = pcY) (hpN : pc + 3 = pcN) (yes : ¬ y < x → own_Fin n0 K P T pcY L S) (no : y < x → own_Fin n0 K P T pcN L S) : own_Fin n0 K P T pc L (.int y :: .int x :: S) := by
  obtain ⟨p, l, e, R, s, m, args, below, meth, c⟩ := K
  obtain ⟨hx, hby, hml, hown, hret, hlk, hZ, rfl, hw⟩ := M
  obtain ⟨locs, X, hN, eT, hn, hcl, hsl⟩ := X
  subst hpN
  by_cases q : y < x
  · obtain ⟨s2, o2, st, r⟩ := no q
    exact ⟨s2, o2, XS.icmpNo X.here hx rfl (hb hby hd) rfl (tlt q).2.2.2 st, r⟩
  · obtain ⟨s2, o2, st, r⟩ := yes q
    exact ⟨s2, o2, XS.icmpYes X.here hx rfl (pc0 := pc) rfl (hb hby hd) rfl (flt q).2.2.2 ho hY st, r⟩
theorem own_if_le (M : own_Mx Z a0 K code own mx ret rm) (X : own_Sx n0 K T h cl sl) {x : Int32} {o : Int} {pcY pcN : Nat} (hd : decode code pc = .ok (.ifCond .le o, 3)) (ho : 0 ≤ (pc : Int) + o) (hY : ((pc : Int) + o).toNat = pcY) (hpN : pc + 3 = pcN) (yes : ¬ 0 < x → own_Fin n0 K P T pcY L S) (no : 0 < x → own_Fin n0 K P T pcN L S) : own_Fin n0 K P T pc L (.int x :: S) := by
  obtain ⟨p, l, e, R, s, m, args, below, meth, c⟩ := K
  obtain ⟨hx, hby, hml, hown, hret, hlk, hZ, rfl, hw⟩ := M
  obtain ⟨locs, X, hN, eT, hn, hcl, hsl⟩ := X
  subst hpN
  by_cases q : 0 < x
  · obtain ⟨s2, o2, st, r⟩ := no q
    exact ⟨s2, o2, XS.ifNo X.here hx rfl (hb hby hd) rfl ((if0 _ _).trans (tlt q).2.2.2) st, r⟩
  · obtain ⟨s2, o2, st, r⟩ := yes q
    exact ⟨s2, o2, XS.ifYes X.here hx rfl (pc0 := pc) rfl (hb hby hd) rfl ((if0 _ _).trans (flt q).2.2.2) ho hY st, r⟩
theorem own_lcmp_le (M : own_Mx Z a0 K code own mx ret rm) (X : own_Sx n0 K T h cl sl) {x y : Int64} {pc1 : Nat} {o : Int} {pcY pcN : Nat} (hdc : decode code pc = .ok (.lcmp, 1)) (h1 : pc + 1 = pc1) (hd : decode code pc1 = .ok (.ifCond .le o, 3)) (ho : 0 ≤ (pc1 : Int) + o) (hY : ((pc1 : Int) + o).toNat = pcY) (hpN : pc1 + 3 = pcN) (yes : ¬ y < x → own_Fin n0 K P T pcY L S) (no : y < x → own_Fin n0 K P T pcN L S) : own_Fin n0 K P T pc L (.long y :: .long x :: S) := by
  obtain ⟨p, l, e, R, s, m, args, below, meth, c⟩ := K
  obtain ⟨hx, hby, hml, hown, hret, hlk, hZ, rfl, hw⟩ := M
  obtain ⟨locs, X, hN, eT, hn, hcl, hsl⟩ := X
  subst hpN h1
  by_cases q : y < x
  · obtain ⟨s2, o2, st, r⟩ := no q
    exact ⟨s2, o2, XS.lcmp X.here hx rfl (hb hby hdc) rfl (XS.ifNo (g := mkF m (pc + 1) L (.int (lcmpW x y) :: S)) X.here hx rfl (hb hby hd) rfl ((if0 _ _).trans (tlt ((lw_gt x y).mpr q)).2.2.2) st), r⟩
  · obtain ⟨s2, o2, st, r⟩ := yes q
    exact ⟨s2, o2, XS.lcmp X.here hx rfl (hb hby hdc) rfl (XS.ifYes (g := mkF m (pc + 1) L (.int (lcmpW x y) :: S)) X.here hx rfl (pc0 := pc + 1) rfl (hb hby hd) rfl ((if0 _ _).trans (flt (fun z => q ((lw_gt x y).mp z))).2.2.2) ho hY st), r⟩
theorem own_icmp_eq (M : own_Mx Z a0 K code own mx ret rm) (X : own_Sx n0 K T h cl sl) {x y : Int32} {o : Int} {pcY pcN : Nat} (hd : decode code pc = .ok (.if_icmp .eq o, 3)) (ho : 0 ≤ (pc : Int) + o) (hY : ((pc : Int) + o).toNat = pcY) (hpN : pc + 3 = pcN) (yes : x = y → own_Fin n0 K P T pcY L S) (no : ¬ x = y → own_Fin n0 K P T pcN L S) : own_Fin n0 K P T pc L (.int y :: .int x :: S) := by
  obtain ⟨p, l, e, R, s, m, args, below, meth, c⟩ := K
  obtain ⟨hx, hby, hml, hown, hret, hlk, hZ, rfl, hw⟩ := M
  obtain ⟨locs, X, hN, eT, hn, hcl, hsl⟩ := X
  subst hpN
  by_cases q : x = y
  · obtain ⟨s2, o2, st, r⟩ := yes q
    exact ⟨s2, o2, XS.icmpYes X.here hx rfl (pc0 := pc) rfl (hb hby hd) rfl (teq q).1 ho hY st, r⟩
  · obtain ⟨s2, o2, st, r⟩ := no q
    exact ⟨s2, o2, XS.icmpNo X.here hx rfl (hb hby hd) rfl (feq q).1 st, r⟩
theorem own_if_eq (M : own_Mx Z a0 K code own mx ret rm) (X : own_Sx n0 K T h cl sl) {x : Int32} {o : Int} {pcY pcN : Nat} (hd : decode code pc = .ok (.ifCond .eq o, 3)) (ho : 0 ≤ (pc : Int) + o) (hY : ((pc : Int) + o).toNat = pcY) (hpN : pc + 3 = pcN) (yes : x = 0 → own_Fin n0 K P T pcY L S) (no : ¬ x = 0 → own_Fin n0 K P T pcN L S) : own_Fin n0 K P T pc L (.int x :: S) := by
  obtain ⟨p, l, e, R, s, m, args, below, meth, c⟩ := K
  obtain ⟨hx, hby, hml, hown, hret, hlk, hZ, rfl, hw⟩ := M
  obtain ⟨locs, X, hN, eT, hn, hcl, hsl⟩ := X
  subst hpN
  by_cases q : x = 0
  · obtain ⟨s2, o2, st, r⟩ := yes q
    exact ⟨s2, o2, XS.ifYes X.here hx rfl (pc0 := pc) rfl (hb hby hd) rfl ((if0 _ _).trans (teq q).1) ho hY st, r⟩
  · obtain ⟨s2, o2, st, r⟩ := no q
    exact ⟨s2, o2, XS.ifNo X.here hx rfl (hb hby hd) rfl ((if0 _ _).trans (feq q).1) st, r⟩
theorem own_lcmp_eq (M : own_Mx Z a0 K code own mx ret rm) (X : own_Sx n0 K T h cl sl) {x y : Int64} {pc1 : Nat} {o : Int} {pcY pcN : Nat} (hdc : decode code pc = .ok (.lcmp, 1)) (h1 : pc + 1 = pc1) (hd : decode code pc1 = .ok (.ifCond .eq o, 3)) (ho : 0 ≤ (pc1 : Int) + o) (hY : ((pc1 : Int) + o).toNat = pcY) (hpN : pc1 + 3 = pcN) (yes : x = y → own_Fin n0 K P T pcY L S) (no : ¬ x = y → own_Fin n0 K P T pcN L S) : own_Fin n0 K P T pc L (.long y :: .long x :: S) := by
  obtain ⟨p, l, e, R, s, m, args, below, meth, c⟩ := K
  obtain ⟨hx, hby, hml, hown, hret, hlk, hZ, rfl, hw⟩ := M
  obtain ⟨locs, X, hN, eT, hn, hcl, hsl⟩ := X
  subst hpN h1
  by_cases q : x = y
  · obtain ⟨s2, o2, st, r⟩ := yes q
    exact ⟨s2, o2, XS.lcmp X.here hx rfl (hb hby hdc) rfl (XS.ifYes (g := mkF m (pc + 1) L (.int (lcmpW x y) :: S)) X.here hx rfl (pc0 := pc + 1) rfl (hb hby hd) rfl ((if0 _ _).trans (teq ((lw_eq x y).mpr q)).1) ho hY st), r⟩
  · obtain ⟨s2, o2, st, r⟩ := no q
    exact ⟨s2, o2, XS.lcmp X.here hx rfl (hb hby hdc) rfl (XS.ifNo (g := mkF m (pc + 1) L (.int (lcmpW x y) :: S)) X.here hx rfl (hb hby hd) rfl ((if0 _ _).trans (feq (fun z => q ((lw_eq x y).mp z))).1) st), r⟩
theorem own_icmp_ne (M : own_Mx Z a0 K code own mx ret rm) (X : own_Sx n0 K T h cl sl) {x y : Int32} {o : Int} {pcY pcN : Nat} (hd : decode code pc = .ok (.if_icmp .ne o, 3)) (ho : 0 ≤ (pc : Int) + o) (hY : ((pc : Int) + o).toNat = pcY) (hpN : pc + 3 = pcN) (yes : ¬ x = y → own_Fin n0 K P T pcY L S) (no : x = y → own_Fin n0 K P T pcN L S) : own_Fin n0 K P T pc L (.int y :: .int x :: S) := by
  obtain ⟨p, l, e, R, s, m, args, below, meth, c⟩ := K
  obtain ⟨hx, hby, hml, hown, hret, hlk, hZ, rfl, hw⟩ := M
  obtain ⟨locs, X, hN, eT, hn, hcl, hsl⟩ := X
  subst hpN
  by_cases q : x = y
  · obtain ⟨s2, o2, st, r⟩ := no q
    exact ⟨s2, o2, XS.icmpNo X.here hx rfl (hb hby hd) rfl (teq q).2 st, r⟩
  · obtain ⟨s2, o2, st, r⟩ := yes q
    exact ⟨s2, o2, XS.icmpYes X.here hx rfl (pc0 := pc) rfl (hb hby hd) rfl (feq q).2 ho hY st, r⟩
theorem own_if_ne (M : own_Mx Z a0 K code own mx ret rm) (X : own_Sx n0 K T h cl sl) {x : Int32} {o : Int} {pcY pcN : Nat} (hd : decode code pc = .ok (.ifCond .ne o, 3)) (ho : 0 ≤ (pc : Int) + o) (hY : ((pc : Int) + o).toNat = pcY) (hpN : pc + 3 = pcN) (yes : ¬ x = 0 → own_Fin n0 K P T pcY L S) (no : x = 0 → own_Fin n0 K P T pcN L S) : own_Fin n0 K P T pc L (.int x :: S) := by
  obtain ⟨p, l, e, R, s, m, args, below, meth, c⟩ := K
  obtain ⟨hx, hby, hml, hown, hret, hlk, hZ, rfl, hw⟩ := M
  obtain ⟨locs, X, hN, eT, hn, hcl, hsl⟩ := X
  subst hpN
  by_cases q : x = 0
  · obtain ⟨s2, o2, st, r⟩ := no q
    exact ⟨s2, o2, XS.ifNo X.here hx rfl (hb hby hd) rfl ((if0 _ _).trans (teq q).2) st, r⟩
  · obtain ⟨s2, o2, st, r⟩ := yes q
    exact ⟨s2, o2, XS.ifYes X.here hx rfl (pc0 := pc) rfl (hb hby hd) rfl ((if0 _ _).trans (feq q).2) ho hY st, r⟩
theorem own_lcmp_ne (M : own_Mx Z a0 K code own mx ret rm) (X : own_Sx n0 K T h cl sl) {x y : Int64} {pc1 : Nat} {o : Int} {pcY pcN : Nat} (hdc : decode code pc = .ok (.lcmp, 1)) (h1 : pc + 1 = pc1) (hd : decode code pc1 = .ok (.ifCond .ne o, 3)) (ho : 0 ≤ (pc1 : Int) + o) (hY : ((pc1 : Int) + o).toNat = pcY) (hpN : pc1 + 3 = pcN) (yes : ¬ x = y → own_Fin n0 K P T pcY L S) (no : x = y → own_Fin n0 K P T pcN L S) : own_Fin n0 K P T pc L (.long y :: .long x :: S) := by
  obtain ⟨p, l, e, R, s, m, args, below, meth, c⟩ := K
  obtain ⟨hx, hby, hml, hown, hret, hlk, hZ, rfl, hw⟩ := M
  obtain ⟨locs, X, hN, eT, hn, hcl, hsl⟩ := X
  subst hpN h1
  by_cases q : x = y
  · obtain ⟨s2, o2, st, r⟩ := no q
    exact ⟨s2, o2, XS.lcmp X.here hx rfl (hb hby hdc) rfl (XS.ifNo (g := mkF m (pc + 1) L (.int (lcmpW x y) :: S)) X.here hx rfl (hb hby hd) rfl ((if0 _ _).trans (teq ((lw_eq x y).mpr q)).2) st), r⟩
  · obtain ⟨s2, o2, st, r⟩ := yes q
    exact ⟨s2, o2, XS.lcmp X.here hx rfl (hb hby hdc) rfl (XS.ifYes (g := mkF m (pc + 1) L (.int (lcmpW x y) :: S)) X.here hx rfl (pc0 := pc + 1) rfl (hb hby hd) rfl ((if0 _ _).trans (feq (fun z => q ((lw_eq x y).mp z))).2) ho hY st), r⟩
theorem own_callS (M : own_Mx Z a0 K code own mx ret rm) (X : own_Sx n0 K T h cl sl) {y : MethodName} {ycode : ByteArray} {ymx : Nat} {yret : Option FieldType} {yrm : Room} {idx : Nat} {Q : Option Value → Heap → Prop} {ps : List FieldType} {yr : Option FieldType} (argsL : List Value)
    (w1 : (Jvm.Cond.methodLink own idx y).before a0 Z = true) (w2 : (Jvm.Cond.static y).before a0 Z = true) (w3 : (Jvm.Cond.initialized y.cls).before a0 Z = true) (w4 : (Jvm.Cond.code y ycode ymx yret).before a0 Z = true) (hy : y.cls ≠ "java/lang/invoke/MethodHandle" ∧ y.cls ≠ "java/lang/invoke/VarHandle")
    (hM : own_Met K.2.1 Z n0 y ycode ymx yret yrm argsL.toArray h Q) (hL : L.size = mx) (hd : decode code pc = .ok (.invokestatic idx, 3)) (hp : pc + 3 = pc') (hpd : parseMethodDescriptor y.desc = some ⟨ps, yr⟩) (hlen : argsL.length = ps.length) (hS : S = argsL.reverse ++ rest)
    (W : Nat) (hW : (rest.map fun v => v.category).sum ≤ W) (hf : yrm.frames + 1 ≤ rm.frames) (hl : W + (ymx + 11) + yrm.locals ≤ rm.locals) (hc : cl + yrm.cells ≤ rm.cells) (hs : sl + yrm.slots ≤ rm.slots)
    (hr : ∀ T' h' v, own_Sx n0 K T' h' (cl + yrm.cells) (sl + yrm.slots) → Q v h' → own_Fin n0 K P T' pc' L (v.toList ++ rest)) : own_Fin n0 K P T pc L S := by
  obtain ⟨p, l, e, R, s, m, args, below, meth, c⟩ := K
  obtain ⟨hx, hby, hml, hown, hret, hlk, hZ, rfl, hw⟩ := M
  obtain ⟨locs, X, hN, eT, hn, hcl, hsl⟩ := X
  obtain ⟨v, vm1, ⟨T1, L1, k1, n1⟩, -, X1, ⟨Lc, hQ, l1, y1, z1⟩, st⟩ := Jvm.LawKit.callS X hx (y := y) hown (mvT hZ w1) (mvT hZ w2) (mvT hZ w3) (mvT hZ w4) hy (backOf (W := W) (Q := fun v h L => Q v h ∧ Fr n0 L) (hM []) hZ w4 w3 hf hl) (g := mkF m pc L S) rfl (by rw [hml]; exact hL) (argsL := argsL) (rest := rest) (lenOf hpd hlen) hS (by show 2 * 0 + _ ≤ W; omega) (hb hby hd) (fun _ _ => ⟨rfl, eT, hc, hs⟩)
  dsimp only [Pt.U, Pt.locs, Pt.cells, Pt.slots] at X1 l1 y1 z1 st hQ
  subst l1 y1 z1 hp
  obtain ⟨s2, o2, st2, r⟩ := hr T1 _ v ⟨_, X1, Fr.app hN hQ.2, rfl, hn, hc, hs⟩ hQ.1
  exact ⟨s2, o2, st _ st2, r⟩
theorem own_callP (M : own_Mx Z a0 K code own mx ret rm) (X : own_Sx n0 K T h cl sl) {y : MethodName} {ycode : ByteArray} {ymx : Nat} {yret : Option FieldType} {yrm : Room} {idx : Nat} {ps : List FieldType} {yr : Option FieldType} {w : Value} (argsL : List Value)
    (w1 : (Jvm.Cond.methodLink own idx y).before a0 Z = true) (w2 : (Jvm.Cond.static y).before a0 Z = true) (w3 : (Jvm.Cond.initialized y.cls).before a0 Z = true) (w4 : (Jvm.Cond.code y ycode ymx yret).before a0 Z = true) (hy : y.cls ≠ "java/lang/invoke/MethodHandle" ∧ y.cls ≠ "java/lang/invoke/VarHandle")
    (hM : own_Met K.2.1 Z n0 y ycode ymx yret yrm argsL.toArray h (fun v h' => v = some w ∧ h' = h)) (hL : L.size = mx) (hd : decode code pc = .ok (.invokestatic idx, 3)) (hp : pc + 3 = pc') (hpd : parseMethodDescriptor y.desc = some ⟨ps, yr⟩) (hlen : argsL.length = ps.length) (hS : S = argsL.reverse ++ rest)
    (W : Nat) (hW : (rest.map fun v => v.category).sum ≤ W) (hf : yrm.frames + 1 ≤ rm.frames) (hl : W + (ymx + 11) + yrm.locals ≤ rm.locals) (hc0 : yrm.cells = 0) (hs0 : yrm.slots = 0)
    (hr : ∀ T', own_Sx n0 K T' h cl sl → own_Fin n0 K P T' pc' L (w :: rest)) : own_Fin n0 K P T pc L S := by
  have hcs : cl ≤ rm.cells ∧ sl ≤ rm.slots := by
    obtain ⟨p, l, e, R, s, m, args, below, meth, c⟩ := K
    obtain ⟨hx, hby, hml, hown, hret, hlk, hZ, rfl, hw⟩ := M
    obtain ⟨locs, X, hN, eT, hn, hcl, hsl⟩ := X
    exact ⟨hcl, hsl⟩
  refine own_callS M X argsL w1 w2 w3 w4 hy hM hL hd hp hpd hlen hS W hW hf hl (by rw [hc0]; exact hcs.1) (by rw [hs0]; exact hcs.2) ?_
  rintro T' h' v X' ⟨rfl, rfl⟩
  rw [hc0, hs0] at X'
  exact hr T' X'
theorem own_callP0 (M : own_Mx Z a0 K code own mx ret rm) (X : own_Sx n0 K T h cl sl) {y : MethodName} {ycode : ByteArray} {ymx : Nat} {yret : Option FieldType} {yrm : Room} {idx : Nat} {ps : List FieldType} {yr : Option FieldType} (argsL : List Value)
    (w1 : (Jvm.Cond.methodLink own idx y).before a0 Z = true) (w2 : (Jvm.Cond.static y).before a0 Z = true) (w3 : (Jvm.Cond.initialized y.cls).before a0 Z = true) (w4 : (Jvm.Cond.code y ycode ymx yret).before a0 Z = true) (hy : y.cls ≠ "java/lang/invoke/MethodHandle" ∧ y.cls ≠ "java/lang/invoke/VarHandle")
    (hM : own_Met K.2.1 Z n0 y ycode ymx yret yrm argsL.toArray h (fun v h' => v = none ∧ h' = h)) (hL : L.size = mx) (hd : decode code pc = .ok (.invokestatic idx, 3)) (hp : pc + 3 = pc') (hpd : parseMethodDescriptor y.desc = some ⟨ps, yr⟩) (hlen : argsL.length = ps.length) (hS : S = argsL.reverse ++ rest)
    (W : Nat) (hW : (rest.map fun v => v.category).sum ≤ W) (hf : yrm.frames + 1 ≤ rm.frames) (hl : W + (ymx + 11) + yrm.locals ≤ rm.locals) (hc0 : yrm.cells = 0) (hs0 : yrm.slots = 0)
    (hr : ∀ T', own_Sx n0 K T' h cl sl → own_Fin n0 K P T' pc' L (rest)) : own_Fin n0 K P T pc L S := by
  have hcs : cl ≤ rm.cells ∧ sl ≤ rm.slots := by
    obtain ⟨p, l, e, R, s, m, args, below, meth, c⟩ := K
    obtain ⟨hx, hby, hml, hown, hret, hlk, hZ, rfl, hw⟩ := M
    obtain ⟨locs, X, hN, eT, hn, hcl, hsl⟩ := X
    exact ⟨hcl, hsl⟩
  refine own_callS M X argsL w1 w2 w3 w4 hy hM hL hd hp hpd hlen hS W hW hf hl (by rw [hc0]; exact hcs.1) (by rw [hs0]; exact hcs.2) ?_
  rintro T' h' v X' ⟨rfl, rfl⟩
  rw [hc0, hs0] at X'
  exact hr T' X'
end OwnLayer
theorem own_pd0 : parseMethodDescriptor "(JI)I" = some ⟨[.long, .int], some .int⟩ := by decide +kernel
theorem own_pd1 : parseMethodDescriptor "()J" = some ⟨[], some .long⟩ := by decide +kernel
theorem own_pd2 : parseMethodDescriptor "(I)J" = some ⟨[.int], some .long⟩ := by decide +kernel
theorem own_pd3 : parseMethodDescriptor "(JJ)J" = some ⟨[.long, .long], some .long⟩ := by decide +kernel
theorem own_pd4 : parseMethodDescriptor "(J)I" = some ⟨[.long], some .int⟩ := by decide +kernel
theorem own_pd5 : parseMethodDescriptor "(JJII)Z" = some ⟨[.long, .long, .int, .int], some .boolean⟩ := by decide +kernel
theorem d5_0 : decode method_4_code 0 = .ok (.lload_n 0, 1) := by decide +kernel
theorem d5_1 : decode method_4_code 1 = .ok (.bipush 8, 2) := by decide +kernel
theorem d5_3 : decode method_4_code 3 = .ok (.iload_n 2, 1) := by decide +kernel
theorem d5_4 : decode method_4_code 4 = .ok (.imul, 1) := by decide +kernel
theorem d5_5 : decode method_4_code 5 = .ok (.lushr, 1) := by decide +kernel
theorem d5_6 : decode method_4_code 6 = .ok (.ldc2_w 37, 3) := by decide +kernel
theorem d5_9 : decode method_4_code 9 = .ok (.land, 1) := by decide +kernel
theorem d5_10 : decode method_4_code 10 = .ok (.l2i, 1) := by decide +kernel
theorem d5_11 : decode method_4_code 11 = .ok (.ireturn, 1) := by decide +kernel
def F5 (x0 : Int64) (x1 : Int32) : Int32 := ((((x0.toUInt64 >>> (((8 : Int32) * x1) &&& 0x3f).toInt64.toUInt64).toInt64) &&& (255 : Int64)).toInt32)
theorem own_pn5 : plainName "com/example/sourcebill/sourcebill/scan/WordsZeroOrAbovePinLaw" = true := by first | (simp [plainName, overriddenIn]; done) | decide +kernel
set_option maxRecDepth 65536 in
set_option maxHeartbeats 40000000 in
theorem met_5 (l : Launch) (Z : State) (a0 : Array Value) (hw : ∀ d ∈ tables_1, d.before a0 Z = true) (h0 : Heap) (n0 : Nat) (hn : n0 ≤ h0.size) (x0 : Int64) (x1 : Int32) : own_Met l Z n0 (⟨"com/example/sourcebill/sourcebill/scan/WordsZeroOrAbovePinLaw", "byteAt", "(JI)I"⟩ : MethodName) method_4_code 3 (some .int) ({ frames := 0, cells := 0, slots := 0, locals := 0 } : Room) #[(.long x0), (.int x1)] h0 (fun v h => v = some (.int (F5 x0 x1)) ∧ h = h0) := by
  refine own_enter (L := #[.val (.long x0), .second, .val (.int x1)]) (plainFor_of_name own_pn5) hw hn (fun m => by first | (simp [entryFrame, mkF, argsToLocals, Value.category]; done) | rfl) (fun K T hK M X => ?_)
  refine own_lloadN M X d5_0 rfl rfl ?_
  refine own_bipush M X (v := (8 : Int32)) d5_1 rfl rfl ?_
  refine own_iloadN M X d5_3 rfl rfl ?_
  refine own_imul M X d5_4 rfl ?_
  refine own_lushr M X d5_5 rfl ?_
  refine own_ldc2_w M X (hw _ (List.mem_of_getElem? (i := 23) rfl)) d5_6 rfl ?_
  refine own_land M X d5_9 rfl ?_
  refine own_l2i M X d5_10 rfl ?_
  exact own_retI M X d5_11 ⟨by rw [F5], rfl⟩
theorem d1_0 : decode prog_96_method_2_code 0 = .ok (.ldc2_w 9, 3) := by decide +kernel
theorem d1_3 : decode prog_96_method_2_code 3 = .ok (.lreturn, 1) := by decide +kernel
def F1  : Int64 := (72340172838076673 : Int64)
theorem own_pn1 : plainName "com/example/sourcebill/sourcebill/scan/Words" = true := by first | (simp [plainName, overriddenIn]; done) | decide +kernel
set_option maxRecDepth 65536 in
set_option maxHeartbeats 40000000 in
theorem met_1 (l : Launch) (Z : State) (a0 : Array Value) (hw : ∀ d ∈ tables_1, d.before a0 Z = true) (h0 : Heap) (n0 : Nat) (hn : n0 ≤ h0.size)  : own_Met l Z n0 (⟨"com/example/sourcebill/sourcebill/scan/Words", "ones", "()J"⟩ : MethodName) prog_96_method_2_code 0 (some .long) ({ frames := 0, cells := 0, slots := 0, locals := 0 } : Room) #[] h0 (fun v h => v = some (.long (F1 )) ∧ h = h0) := by
  refine own_enter (L := #[]) (plainFor_of_name own_pn1) hw hn (fun m => by first | (simp [entryFrame, mkF, argsToLocals, Value.category]; done) | rfl) (fun K T hK M X => ?_)
  refine own_ldc2_w M X (hw _ (List.mem_of_getElem? (i := 4) rfl)) d1_0 rfl ?_
  exact own_retJ M X d1_3 ⟨by rw [F1], rfl⟩
theorem d2_0 : decode method_3_code 0 = .ok (.lconst 0, 1) := by decide +kernel
theorem d2_1 : decode method_3_code 1 = .ok (.lstore_n 1, 1) := by decide +kernel
theorem d2_2 : decode method_3_code 2 = .ok (.iload_n 0, 1) := by decide +kernel
theorem d2_3 : decode method_3_code 3 = .ok (.iconst 1, 1) := by decide +kernel
theorem d2_4 : decode method_3_code 4 = .ok (.iand, 1) := by decide +kernel
theorem d2_5 : decode method_3_code 5 = .ok (.ifCond .eq 9, 3) := by decide +kernel
theorem d2_8 : decode method_3_code 8 = .ok (.lload_n 1, 1) := by decide +kernel
theorem d2_9 : decode method_3_code 9 = .ok (.ldc2_w 37, 3) := by decide +kernel
theorem d2_12 : decode method_3_code 12 = .ok (.lor, 1) := by decide +kernel
theorem d2_13 : decode method_3_code 13 = .ok (.lstore_n 1, 1) := by decide +kernel
theorem d2_14 : decode method_3_code 14 = .ok (.iload_n 0, 1) := by decide +kernel
theorem d2_15 : decode method_3_code 15 = .ok (.iconst 2, 1) := by decide +kernel
theorem d2_16 : decode method_3_code 16 = .ok (.iand, 1) := by decide +kernel
theorem d2_17 : decode method_3_code 17 = .ok (.ifCond .eq 9, 3) := by decide +kernel
theorem d2_20 : decode method_3_code 20 = .ok (.lload_n 1, 1) := by decide +kernel
theorem d2_21 : decode method_3_code 21 = .ok (.ldc2_w 39, 3) := by decide +kernel
theorem d2_24 : decode method_3_code 24 = .ok (.lor, 1) := by decide +kernel
theorem d2_25 : decode method_3_code 25 = .ok (.lstore_n 1, 1) := by decide +kernel
theorem d2_26 : decode method_3_code 26 = .ok (.iload_n 0, 1) := by decide +kernel
theorem d2_27 : decode method_3_code 27 = .ok (.iconst 4, 1) := by decide +kernel
theorem d2_28 : decode method_3_code 28 = .ok (.iand, 1) := by decide +kernel
theorem d2_29 : decode method_3_code 29 = .ok (.ifCond .eq 9, 3) := by decide +kernel
theorem d2_32 : decode method_3_code 32 = .ok (.lload_n 1, 1) := by decide +kernel
theorem d2_33 : decode method_3_code 33 = .ok (.ldc2_w 41, 3) := by decide +kernel
theorem d2_36 : decode method_3_code 36 = .ok (.lor, 1) := by decide +kernel
theorem d2_37 : decode method_3_code 37 = .ok (.lstore_n 1, 1) := by decide +kernel
theorem d2_38 : decode method_3_code 38 = .ok (.iload_n 0, 1) := by decide +kernel
theorem d2_39 : decode method_3_code 39 = .ok (.bipush 8, 2) := by decide +kernel
theorem d2_41 : decode method_3_code 41 = .ok (.iand, 1) := by decide +kernel
theorem d2_42 : decode method_3_code 42 = .ok (.ifCond .eq 9, 3) := by decide +kernel
theorem d2_45 : decode method_3_code 45 = .ok (.lload_n 1, 1) := by decide +kernel
theorem d2_46 : decode method_3_code 46 = .ok (.ldc2_w 43, 3) := by decide +kernel
theorem d2_49 : decode method_3_code 49 = .ok (.lor, 1) := by decide +kernel
theorem d2_50 : decode method_3_code 50 = .ok (.lstore_n 1, 1) := by decide +kernel
theorem d2_51 : decode method_3_code 51 = .ok (.iload_n 0, 1) := by decide +kernel
theorem d2_52 : decode method_3_code 52 = .ok (.bipush 16, 2) := by decide +kernel
theorem d2_54 : decode method_3_code 54 = .ok (.iand, 1) := by decide +kernel
theorem d2_55 : decode method_3_code 55 = .ok (.ifCond .eq 9, 3) := by decide +kernel
theorem d2_58 : decode method_3_code 58 = .ok (.lload_n 1, 1) := by decide +kernel
theorem d2_59 : decode method_3_code 59 = .ok (.ldc2_w 45, 3) := by decide +kernel
theorem d2_62 : decode method_3_code 62 = .ok (.lor, 1) := by decide +kernel
theorem d2_63 : decode method_3_code 63 = .ok (.lstore_n 1, 1) := by decide +kernel
theorem d2_64 : decode method_3_code 64 = .ok (.iload_n 0, 1) := by decide +kernel
theorem d2_65 : decode method_3_code 65 = .ok (.bipush 32, 2) := by decide +kernel
theorem d2_67 : decode method_3_code 67 = .ok (.iand, 1) := by decide +kernel
theorem d2_68 : decode method_3_code 68 = .ok (.ifCond .eq 9, 3) := by decide +kernel
theorem d2_71 : decode method_3_code 71 = .ok (.lload_n 1, 1) := by decide +kernel
theorem d2_72 : decode method_3_code 72 = .ok (.ldc2_w 47, 3) := by decide +kernel
theorem d2_75 : decode method_3_code 75 = .ok (.lor, 1) := by decide +kernel
theorem d2_76 : decode method_3_code 76 = .ok (.lstore_n 1, 1) := by decide +kernel
theorem d2_77 : decode method_3_code 77 = .ok (.iload_n 0, 1) := by decide +kernel
theorem d2_78 : decode method_3_code 78 = .ok (.bipush 64, 2) := by decide +kernel
theorem d2_80 : decode method_3_code 80 = .ok (.iand, 1) := by decide +kernel
theorem d2_81 : decode method_3_code 81 = .ok (.ifCond .eq 9, 3) := by decide +kernel
theorem d2_84 : decode method_3_code 84 = .ok (.lload_n 1, 1) := by decide +kernel
theorem d2_85 : decode method_3_code 85 = .ok (.ldc2_w 49, 3) := by decide +kernel
theorem d2_88 : decode method_3_code 88 = .ok (.lor, 1) := by decide +kernel
theorem d2_89 : decode method_3_code 89 = .ok (.lstore_n 1, 1) := by decide +kernel
theorem d2_90 : decode method_3_code 90 = .ok (.iload_n 0, 1) := by decide +kernel
theorem d2_91 : decode method_3_code 91 = .ok (.sipush 128, 3) := by decide +kernel
theorem d2_94 : decode method_3_code 94 = .ok (.iand, 1) := by decide +kernel
theorem d2_95 : decode method_3_code 95 = .ok (.ifCond .eq 9, 3) := by decide +kernel
theorem d2_98 : decode method_3_code 98 = .ok (.lload_n 1, 1) := by decide +kernel
theorem d2_99 : decode method_3_code 99 = .ok (.ldc2_w 51, 3) := by decide +kernel
theorem d2_102 : decode method_3_code 102 = .ok (.lor, 1) := by decide +kernel
theorem d2_103 : decode method_3_code 103 = .ok (.lstore_n 1, 1) := by decide +kernel
theorem d2_104 : decode method_3_code 104 = .ok (.lload_n 1, 1) := by decide +kernel
theorem d2_105 : decode method_3_code 105 = .ok (.lreturn, 1) := by decide +kernel
def g2_2_l1 (u0 : Int32) (u1 : Int64) : Int64 := (if (u0 &&& (1 : Int32)) = (0 : Int32) then u1 else (u1 ||| (255 : Int64)))
set_option maxRecDepth 65536 in
set_option maxHeartbeats 40000000 in
theorem sg2_2 (l : Launch) (Z : State) (a0 : Array Value) (hw : ∀ d ∈ tables_1, d.before a0 Z = true) {n0 : Nat} {K : own_Cx} {P : Option Value → Heap → Prop} {T : State} {h : Heap} {cl sl : Nat} (M : own_Mx Z a0 K method_3_code "com/example/sourcebill/sourcebill/scan/WordsZeroOrAbovePinLaw" 3 (some .long) ({ frames := 0, cells := 0, slots := 0, locals := 0 } : Room)) (X : own_Sx n0 K T h cl sl) (u0 : Int32) (u1 : Int64)
    (hr : ∀ T', own_Sx n0 K T' h cl sl → own_Fin n0 K P T' 14 #[.val (.int u0), .val (.long (g2_2_l1 u0 u1)), .second] []) : own_Fin n0 K P T 2 #[.val (.int u0), .val (.long u1), .second] [] := by
  refine own_iloadN M X d2_2 rfl rfl ?_
  refine own_iconst M X (v := (1 : Int32)) d2_3 rfl rfl ?_
  refine own_iand M X d2_4 rfl ?_
  refine own_if_eq M X d2_5 (by decide) rfl rfl (fun q1 => ?_) (fun q1 => ?_)
  · skip
    have hr1 := hr T X
    rw [g2_2_l1, if_pos q1] at hr1
    exact hr1
  · skip
    refine own_lloadN M X d2_8 rfl rfl ?_
    refine own_ldc2_w M X (hw _ (List.mem_of_getElem? (i := 23) rfl)) d2_9 rfl ?_
    refine own_lor M X d2_12 rfl ?_
    refine own_lstoreN M X (L' := #[.val (.int u0), .val (.long (u1 ||| (255 : Int64))), .second]) d2_13 rfl rfl ?_
    have hr1 := hr T X
    rw [g2_2_l1, if_neg q1] at hr1
    exact hr1
def g2_14_l1 (u0 : Int32) (u1 : Int64) : Int64 := (if (u0 &&& (2 : Int32)) = (0 : Int32) then u1 else (u1 ||| (65280 : Int64)))
set_option maxRecDepth 65536 in
set_option maxHeartbeats 40000000 in
theorem sg2_14 (l : Launch) (Z : State) (a0 : Array Value) (hw : ∀ d ∈ tables_1, d.before a0 Z = true) {n0 : Nat} {K : own_Cx} {P : Option Value → Heap → Prop} {T : State} {h : Heap} {cl sl : Nat} (M : own_Mx Z a0 K method_3_code "com/example/sourcebill/sourcebill/scan/WordsZeroOrAbovePinLaw" 3 (some .long) ({ frames := 0, cells := 0, slots := 0, locals := 0 } : Room)) (X : own_Sx n0 K T h cl sl) (u0 : Int32) (u1 : Int64)
    (hr : ∀ T', own_Sx n0 K T' h cl sl → own_Fin n0 K P T' 26 #[.val (.int u0), .val (.long (g2_14_l1 u0 u1)), .second] []) : own_Fin n0 K P T 14 #[.val (.int u0), .val (.long u1), .second] [] := by
  refine own_iloadN M X d2_14 rfl rfl ?_
  refine own_iconst M X (v := (2 : Int32)) d2_15 rfl rfl ?_
  refine own_iand M X d2_16 rfl ?_
  refine own_if_eq M X d2_17 (by decide) rfl rfl (fun q1 => ?_) (fun q1 => ?_)
  · skip
    have hr1 := hr T X
    rw [g2_14_l1, if_pos q1] at hr1
    exact hr1
  · skip
    refine own_lloadN M X d2_20 rfl rfl ?_
    refine own_ldc2_w M X (hw _ (List.mem_of_getElem? (i := 9) rfl)) d2_21 rfl ?_
    refine own_lor M X d2_24 rfl ?_
    refine own_lstoreN M X (L' := #[.val (.int u0), .val (.long (u1 ||| (65280 : Int64))), .second]) d2_25 rfl rfl ?_
    have hr1 := hr T X
    rw [g2_14_l1, if_neg q1] at hr1
    exact hr1
def g2_26_l1 (u0 : Int32) (u1 : Int64) : Int64 := (if (u0 &&& (4 : Int32)) = (0 : Int32) then u1 else (u1 ||| (16711680 : Int64)))
set_option maxRecDepth 65536 in
set_option maxHeartbeats 40000000 in
theorem sg2_26 (l : Launch) (Z : State) (a0 : Array Value) (hw : ∀ d ∈ tables_1, d.before a0 Z = true) {n0 : Nat} {K : own_Cx} {P : Option Value → Heap → Prop} {T : State} {h : Heap} {cl sl : Nat} (M : own_Mx Z a0 K method_3_code "com/example/sourcebill/sourcebill/scan/WordsZeroOrAbovePinLaw" 3 (some .long) ({ frames := 0, cells := 0, slots := 0, locals := 0 } : Room)) (X : own_Sx n0 K T h cl sl) (u0 : Int32) (u1 : Int64)
    (hr : ∀ T', own_Sx n0 K T' h cl sl → own_Fin n0 K P T' 38 #[.val (.int u0), .val (.long (g2_26_l1 u0 u1)), .second] []) : own_Fin n0 K P T 26 #[.val (.int u0), .val (.long u1), .second] [] := by
  refine own_iloadN M X d2_26 rfl rfl ?_
  refine own_iconst M X (v := (4 : Int32)) d2_27 rfl rfl ?_
  refine own_iand M X d2_28 rfl ?_
  refine own_if_eq M X d2_29 (by decide) rfl rfl (fun q1 => ?_) (fun q1 => ?_)
  · skip
    have hr1 := hr T X
    rw [g2_26_l1, if_pos q1] at hr1
    exact hr1
  · skip
    refine own_lloadN M X d2_32 rfl rfl ?_
    refine own_ldc2_w M X (hw _ (List.mem_of_getElem? (i := 27) rfl)) d2_33 rfl ?_
    refine own_lor M X d2_36 rfl ?_
    refine own_lstoreN M X (L' := #[.val (.int u0), .val (.long (u1 ||| (16711680 : Int64))), .second]) d2_37 rfl rfl ?_
    have hr1 := hr T X
    rw [g2_26_l1, if_neg q1] at hr1
    exact hr1
def g2_38_l1 (u0 : Int32) (u1 : Int64) : Int64 := (if (u0 &&& (8 : Int32)) = (0 : Int32) then u1 else (u1 ||| (4278190080 : Int64)))
set_option maxRecDepth 65536 in
set_option maxHeartbeats 40000000 in
theorem sg2_38 (l : Launch) (Z : State) (a0 : Array Value) (hw : ∀ d ∈ tables_1, d.before a0 Z = true) {n0 : Nat} {K : own_Cx} {P : Option Value → Heap → Prop} {T : State} {h : Heap} {cl sl : Nat} (M : own_Mx Z a0 K method_3_code "com/example/sourcebill/sourcebill/scan/WordsZeroOrAbovePinLaw" 3 (some .long) ({ frames := 0, cells := 0, slots := 0, locals := 0 } : Room)) (X : own_Sx n0 K T h cl sl) (u0 : Int32) (u1 : Int64)
    (hr : ∀ T', own_Sx n0 K T' h cl sl → own_Fin n0 K P T' 51 #[.val (.int u0), .val (.long (g2_38_l1 u0 u1)), .second] []) : own_Fin n0 K P T 38 #[.val (.int u0), .val (.long u1), .second] [] := by
  refine own_iloadN M X d2_38 rfl rfl ?_
  refine own_bipush M X (v := (8 : Int32)) d2_39 rfl rfl ?_
  refine own_iand M X d2_41 rfl ?_
  refine own_if_eq M X d2_42 (by decide) rfl rfl (fun q1 => ?_) (fun q1 => ?_)
  · skip
    have hr1 := hr T X
    rw [g2_38_l1, if_pos q1] at hr1
    exact hr1
  · skip
    refine own_lloadN M X d2_45 rfl rfl ?_
    refine own_ldc2_w M X (hw _ (List.mem_of_getElem? (i := 32) rfl)) d2_46 rfl ?_
    refine own_lor M X d2_49 rfl ?_
    refine own_lstoreN M X (L' := #[.val (.int u0), .val (.long (u1 ||| (4278190080 : Int64))), .second]) d2_50 rfl rfl ?_
    have hr1 := hr T X
    rw [g2_38_l1, if_neg q1] at hr1
    exact hr1
def g2_51_l1 (u0 : Int32) (u1 : Int64) : Int64 := (if (u0 &&& (16 : Int32)) = (0 : Int32) then u1 else (u1 ||| (1095216660480 : Int64)))
set_option maxRecDepth 65536 in
set_option maxHeartbeats 40000000 in
theorem sg2_51 (l : Launch) (Z : State) (a0 : Array Value) (hw : ∀ d ∈ tables_1, d.before a0 Z = true) {n0 : Nat} {K : own_Cx} {P : Option Value → Heap → Prop} {T : State} {h : Heap} {cl sl : Nat} (M : own_Mx Z a0 K method_3_code "com/example/sourcebill/sourcebill/scan/WordsZeroOrAbovePinLaw" 3 (some .long) ({ frames := 0, cells := 0, slots := 0, locals := 0 } : Room)) (X : own_Sx n0 K T h cl sl) (u0 : Int32) (u1 : Int64)
    (hr : ∀ T', own_Sx n0 K T' h cl sl → own_Fin n0 K P T' 64 #[.val (.int u0), .val (.long (g2_51_l1 u0 u1)), .second] []) : own_Fin n0 K P T 51 #[.val (.int u0), .val (.long u1), .second] [] := by
  refine own_iloadN M X d2_51 rfl rfl ?_
  refine own_bipush M X (v := (16 : Int32)) d2_52 rfl rfl ?_
  refine own_iand M X d2_54 rfl ?_
  refine own_if_eq M X d2_55 (by decide) rfl rfl (fun q1 => ?_) (fun q1 => ?_)
  · skip
    have hr1 := hr T X
    rw [g2_51_l1, if_pos q1] at hr1
    exact hr1
  · skip
    refine own_lloadN M X d2_58 rfl rfl ?_
    refine own_ldc2_w M X (hw _ (List.mem_of_getElem? (i := 30) rfl)) d2_59 rfl ?_
    refine own_lor M X d2_62 rfl ?_
    refine own_lstoreN M X (L' := #[.val (.int u0), .val (.long (u1 ||| (1095216660480 : Int64))), .second]) d2_63 rfl rfl ?_
    have hr1 := hr T X
    rw [g2_51_l1, if_neg q1] at hr1
    exact hr1
def g2_64_l1 (u0 : Int32) (u1 : Int64) : Int64 := (if (u0 &&& (32 : Int32)) = (0 : Int32) then u1 else (u1 ||| (280375465082880 : Int64)))
set_option maxRecDepth 65536 in
set_option maxHeartbeats 40000000 in
theorem sg2_64 (l : Launch) (Z : State) (a0 : Array Value) (hw : ∀ d ∈ tables_1, d.before a0 Z = true) {n0 : Nat} {K : own_Cx} {P : Option Value → Heap → Prop} {T : State} {h : Heap} {cl sl : Nat} (M : own_Mx Z a0 K method_3_code "com/example/sourcebill/sourcebill/scan/WordsZeroOrAbovePinLaw" 3 (some .long) ({ frames := 0, cells := 0, slots := 0, locals := 0 } : Room)) (X : own_Sx n0 K T h cl sl) (u0 : Int32) (u1 : Int64)
    (hr : ∀ T', own_Sx n0 K T' h cl sl → own_Fin n0 K P T' 77 #[.val (.int u0), .val (.long (g2_64_l1 u0 u1)), .second] []) : own_Fin n0 K P T 64 #[.val (.int u0), .val (.long u1), .second] [] := by
  refine own_iloadN M X d2_64 rfl rfl ?_
  refine own_bipush M X (v := (32 : Int32)) d2_65 rfl rfl ?_
  refine own_iand M X d2_67 rfl ?_
  refine own_if_eq M X d2_68 (by decide) rfl rfl (fun q1 => ?_) (fun q1 => ?_)
  · skip
    have hr1 := hr T X
    rw [g2_64_l1, if_pos q1] at hr1
    exact hr1
  · skip
    refine own_lloadN M X d2_71 rfl rfl ?_
    refine own_ldc2_w M X (hw _ (List.mem_of_getElem? (i := 31) rfl)) d2_72 rfl ?_
    refine own_lor M X d2_75 rfl ?_
    refine own_lstoreN M X (L' := #[.val (.int u0), .val (.long (u1 ||| (280375465082880 : Int64))), .second]) d2_76 rfl rfl ?_
    have hr1 := hr T X
    rw [g2_64_l1, if_neg q1] at hr1
    exact hr1
def g2_77_l1 (u0 : Int32) (u1 : Int64) : Int64 := (if (u0 &&& (64 : Int32)) = (0 : Int32) then u1 else (u1 ||| (71776119061217280 : Int64)))
set_option maxRecDepth 65536 in
set_option maxHeartbeats 40000000 in
theorem sg2_77 (l : Launch) (Z : State) (a0 : Array Value) (hw : ∀ d ∈ tables_1, d.before a0 Z = true) {n0 : Nat} {K : own_Cx} {P : Option Value → Heap → Prop} {T : State} {h : Heap} {cl sl : Nat} (M : own_Mx Z a0 K method_3_code "com/example/sourcebill/sourcebill/scan/WordsZeroOrAbovePinLaw" 3 (some .long) ({ frames := 0, cells := 0, slots := 0, locals := 0 } : Room)) (X : own_Sx n0 K T h cl sl) (u0 : Int32) (u1 : Int64)
    (hr : ∀ T', own_Sx n0 K T' h cl sl → own_Fin n0 K P T' 90 #[.val (.int u0), .val (.long (g2_77_l1 u0 u1)), .second] []) : own_Fin n0 K P T 77 #[.val (.int u0), .val (.long u1), .second] [] := by
  refine own_iloadN M X d2_77 rfl rfl ?_
  refine own_bipush M X (v := (64 : Int32)) d2_78 rfl rfl ?_
  refine own_iand M X d2_80 rfl ?_
  refine own_if_eq M X d2_81 (by decide) rfl rfl (fun q1 => ?_) (fun q1 => ?_)
  · skip
    have hr1 := hr T X
    rw [g2_77_l1, if_pos q1] at hr1
    exact hr1
  · skip
    refine own_lloadN M X d2_84 rfl rfl ?_
    refine own_ldc2_w M X (hw _ (List.mem_of_getElem? (i := 28) rfl)) d2_85 rfl ?_
    refine own_lor M X d2_88 rfl ?_
    refine own_lstoreN M X (L' := #[.val (.int u0), .val (.long (u1 ||| (71776119061217280 : Int64))), .second]) d2_89 rfl rfl ?_
    have hr1 := hr T X
    rw [g2_77_l1, if_neg q1] at hr1
    exact hr1
def g2_90_l1 (u0 : Int32) (u1 : Int64) : Int64 := (if (u0 &&& (128 : Int32)) = (0 : Int32) then u1 else (u1 ||| (-72057594037927936 : Int64)))
set_option maxRecDepth 65536 in
set_option maxHeartbeats 40000000 in
theorem sg2_90 (l : Launch) (Z : State) (a0 : Array Value) (hw : ∀ d ∈ tables_1, d.before a0 Z = true) {n0 : Nat} {K : own_Cx} {P : Option Value → Heap → Prop} {T : State} {h : Heap} {cl sl : Nat} (M : own_Mx Z a0 K method_3_code "com/example/sourcebill/sourcebill/scan/WordsZeroOrAbovePinLaw" 3 (some .long) ({ frames := 0, cells := 0, slots := 0, locals := 0 } : Room)) (X : own_Sx n0 K T h cl sl) (u0 : Int32) (u1 : Int64)
    (hr : ∀ T', own_Sx n0 K T' h cl sl → own_Fin n0 K P T' 104 #[.val (.int u0), .val (.long (g2_90_l1 u0 u1)), .second] []) : own_Fin n0 K P T 90 #[.val (.int u0), .val (.long u1), .second] [] := by
  refine own_iloadN M X d2_90 rfl rfl ?_
  refine own_sipush M X (v := (128 : Int32)) d2_91 rfl rfl ?_
  refine own_iand M X d2_94 rfl ?_
  refine own_if_eq M X d2_95 (by decide) rfl rfl (fun q1 => ?_) (fun q1 => ?_)
  · skip
    have hr1 := hr T X
    rw [g2_90_l1, if_pos q1] at hr1
    exact hr1
  · skip
    refine own_lloadN M X d2_98 rfl rfl ?_
    refine own_ldc2_w M X (hw _ (List.mem_of_getElem? (i := 29) rfl)) d2_99 rfl ?_
    refine own_lor M X d2_102 rfl ?_
    refine own_lstoreN M X (L' := #[.val (.int u0), .val (.long (u1 ||| (-72057594037927936 : Int64))), .second]) d2_103 rfl rfl ?_
    have hr1 := hr T X
    rw [g2_90_l1, if_neg q1] at hr1
    exact hr1
def F2 (x0 : Int32) : Int64 := (g2_90_l1 x0 (g2_77_l1 x0 (g2_64_l1 x0 (g2_51_l1 x0 (g2_38_l1 x0 (g2_26_l1 x0 (g2_14_l1 x0 (g2_2_l1 x0 (0 : Int64)))))))))
theorem own_pn2 : plainName "com/example/sourcebill/sourcebill/scan/WordsZeroOrAbovePinLaw" = true := by first | (simp [plainName, overriddenIn]; done) | decide +kernel
set_option maxRecDepth 65536 in
set_option maxHeartbeats 40000000 in
theorem met_2 (l : Launch) (Z : State) (a0 : Array Value) (hw : ∀ d ∈ tables_1, d.before a0 Z = true) (h0 : Heap) (n0 : Nat) (hn : n0 ≤ h0.size) (x0 : Int32) : own_Met l Z n0 (⟨"com/example/sourcebill/sourcebill/scan/WordsZeroOrAbovePinLaw", "spread", "(I)J"⟩ : MethodName) method_3_code 3 (some .long) ({ frames := 0, cells := 0, slots := 0, locals := 0 } : Room) #[(.int x0)] h0 (fun v h => v = some (.long (F2 x0)) ∧ h = h0) := by
  refine own_enter (L := #[.val (.int x0), .unset, .unset]) (plainFor_of_name own_pn2) hw hn (fun m => by first | (simp [entryFrame, mkF, argsToLocals, Value.category]; done) | rfl) (fun K T hK M X => ?_)
  refine own_lconst M X (v := (0 : Int64)) d2_0 rfl rfl ?_
  refine own_lstoreN M X (L' := #[.val (.int x0), .val (.long (0 : Int64)), .second]) d2_1 rfl rfl ?_
  refine sg2_2 l Z a0 hw M X x0 (0 : Int64) (fun T1 X2 => ?_)
  refine sg2_14 l Z a0 hw M X2 x0 (g2_2_l1 x0 (0 : Int64)) (fun T3 X4 => ?_)
  refine sg2_26 l Z a0 hw M X4 x0 (g2_14_l1 x0 (g2_2_l1 x0 (0 : Int64))) (fun T5 X6 => ?_)
  refine sg2_38 l Z a0 hw M X6 x0 (g2_26_l1 x0 (g2_14_l1 x0 (g2_2_l1 x0 (0 : Int64)))) (fun T7 X8 => ?_)
  refine sg2_51 l Z a0 hw M X8 x0 (g2_38_l1 x0 (g2_26_l1 x0 (g2_14_l1 x0 (g2_2_l1 x0 (0 : Int64))))) (fun T9 X10 => ?_)
  refine sg2_64 l Z a0 hw M X10 x0 (g2_51_l1 x0 (g2_38_l1 x0 (g2_26_l1 x0 (g2_14_l1 x0 (g2_2_l1 x0 (0 : Int64)))))) (fun T11 X12 => ?_)
  refine sg2_77 l Z a0 hw M X12 x0 (g2_64_l1 x0 (g2_51_l1 x0 (g2_38_l1 x0 (g2_26_l1 x0 (g2_14_l1 x0 (g2_2_l1 x0 (0 : Int64))))))) (fun T13 X14 => ?_)
  refine sg2_90 l Z a0 hw M X14 x0 (g2_77_l1 x0 (g2_64_l1 x0 (g2_51_l1 x0 (g2_38_l1 x0 (g2_26_l1 x0 (g2_14_l1 x0 (g2_2_l1 x0 (0 : Int64)))))))) (fun T15 X16 => ?_)
  refine own_lloadN M X16 d2_104 rfl rfl ?_
  exact own_retJ M X16 d2_105 ⟨by rw [F2], rfl⟩
theorem d3_0 : decode prog_96_method_5_code 0 = .ok (.lload_n 0, 1) := by decide +kernel
theorem d3_1 : decode prog_96_method_5_code 1 = .ok (.lload_n 2, 1) := by decide +kernel
theorem d3_2 : decode prog_96_method_5_code 2 = .ok (.lsub, 1) := by decide +kernel
theorem d3_3 : decode prog_96_method_5_code 3 = .ok (.lload_n 0, 1) := by decide +kernel
theorem d3_4 : decode prog_96_method_5_code 4 = .ok (.ldc2_w 21, 3) := by decide +kernel
theorem d3_7 : decode prog_96_method_5_code 7 = .ok (.lxor, 1) := by decide +kernel
theorem d3_8 : decode prog_96_method_5_code 8 = .ok (.land, 1) := by decide +kernel
theorem d3_9 : decode prog_96_method_5_code 9 = .ok (.lload_n 2, 1) := by decide +kernel
theorem d3_10 : decode prog_96_method_5_code 10 = .ok (.bipush 7, 2) := by decide +kernel
theorem d3_12 : decode prog_96_method_5_code 12 = .ok (.lshl, 1) := by decide +kernel
theorem d3_13 : decode prog_96_method_5_code 13 = .ok (.land, 1) := by decide +kernel
theorem d3_14 : decode prog_96_method_5_code 14 = .ok (.lreturn, 1) := by decide +kernel
def F3 (x0 : Int64) (x1 : Int64) : Int64 := (((x0 - x1) &&& (x0 ^^^ (-1 : Int64))) &&& (x1 <<< ((7 : Int32) &&& 0x3f).toInt64))
theorem own_pn3 : plainName "com/example/sourcebill/sourcebill/scan/Words" = true := by first | (simp [plainName, overriddenIn]; done) | decide +kernel
set_option maxRecDepth 65536 in
set_option maxHeartbeats 40000000 in
theorem met_3 (l : Launch) (Z : State) (a0 : Array Value) (hw : ∀ d ∈ tables_1, d.before a0 Z = true) (h0 : Heap) (n0 : Nat) (hn : n0 ≤ h0.size) (x0 : Int64) (x1 : Int64) : own_Met l Z n0 (⟨"com/example/sourcebill/sourcebill/scan/Words", "zeroOrAbove", "(JJ)J"⟩ : MethodName) prog_96_method_5_code 4 (some .long) ({ frames := 0, cells := 0, slots := 0, locals := 0 } : Room) #[(.long x0), (.long x1)] h0 (fun v h => v = some (.long (F3 x0 x1)) ∧ h = h0) := by
  refine own_enter (L := #[.val (.long x0), .second, .val (.long x1), .second]) (plainFor_of_name own_pn3) hw hn (fun m => by first | (simp [entryFrame, mkF, argsToLocals, Value.category]; done) | rfl) (fun K T hK M X => ?_)
  refine own_lloadN M X d3_0 rfl rfl ?_
  refine own_lloadN M X d3_1 rfl rfl ?_
  refine own_lsub M X d3_2 rfl ?_
  refine own_lloadN M X d3_3 rfl rfl ?_
  refine own_ldc2_w M X (hw _ (List.mem_of_getElem? (i := 15) rfl)) d3_4 rfl ?_
  refine own_lxor M X d3_7 rfl ?_
  refine own_land M X d3_8 rfl ?_
  refine own_lloadN M X d3_9 rfl rfl ?_
  refine own_bipush M X (v := (7 : Int32)) d3_10 rfl rfl ?_
  refine own_lshl M X d3_12 rfl ?_
  refine own_land M X d3_13 rfl ?_
  exact own_retJ M X d3_14 ⟨by rw [F3], rfl⟩
theorem d4_0 : decode method_5_code 0 = .ok (.lload_n 0, 1) := by decide +kernel
theorem d4_1 : decode method_5_code 1 = .ok (.iconst 0, 1) := by decide +kernel
theorem d4_2 : decode method_5_code 2 = .ok (.invokestatic 53, 3) := by decide +kernel
theorem d4_5 : decode method_5_code 5 = .ok (.ifCond .ne 5, 3) := by decide +kernel
theorem d4_8 : decode method_5_code 8 = .ok (.iconst 0, 1) := by decide +kernel
theorem d4_9 : decode method_5_code 9 = .ok (.ireturn, 1) := by decide +kernel
theorem d4_10 : decode method_5_code 10 = .ok (.lload_n 0, 1) := by decide +kernel
theorem d4_11 : decode method_5_code 11 = .ok (.iconst 1, 1) := by decide +kernel
theorem d4_12 : decode method_5_code 12 = .ok (.invokestatic 53, 3) := by decide +kernel
theorem d4_15 : decode method_5_code 15 = .ok (.ifCond .ne 5, 3) := by decide +kernel
theorem d4_18 : decode method_5_code 18 = .ok (.iconst 1, 1) := by decide +kernel
theorem d4_19 : decode method_5_code 19 = .ok (.ireturn, 1) := by decide +kernel
theorem d4_20 : decode method_5_code 20 = .ok (.lload_n 0, 1) := by decide +kernel
theorem d4_21 : decode method_5_code 21 = .ok (.iconst 2, 1) := by decide +kernel
theorem d4_22 : decode method_5_code 22 = .ok (.invokestatic 53, 3) := by decide +kernel
theorem d4_25 : decode method_5_code 25 = .ok (.ifCond .ne 5, 3) := by decide +kernel
theorem d4_28 : decode method_5_code 28 = .ok (.iconst 2, 1) := by decide +kernel
theorem d4_29 : decode method_5_code 29 = .ok (.ireturn, 1) := by decide +kernel
theorem d4_30 : decode method_5_code 30 = .ok (.lload_n 0, 1) := by decide +kernel
theorem d4_31 : decode method_5_code 31 = .ok (.iconst 3, 1) := by decide +kernel
theorem d4_32 : decode method_5_code 32 = .ok (.invokestatic 53, 3) := by decide +kernel
theorem d4_35 : decode method_5_code 35 = .ok (.ifCond .ne 5, 3) := by decide +kernel
theorem d4_38 : decode method_5_code 38 = .ok (.iconst 3, 1) := by decide +kernel
theorem d4_39 : decode method_5_code 39 = .ok (.ireturn, 1) := by decide +kernel
theorem d4_40 : decode method_5_code 40 = .ok (.lload_n 0, 1) := by decide +kernel
theorem d4_41 : decode method_5_code 41 = .ok (.iconst 4, 1) := by decide +kernel
theorem d4_42 : decode method_5_code 42 = .ok (.invokestatic 53, 3) := by decide +kernel
theorem d4_45 : decode method_5_code 45 = .ok (.ifCond .ne 5, 3) := by decide +kernel
theorem d4_48 : decode method_5_code 48 = .ok (.iconst 4, 1) := by decide +kernel
theorem d4_49 : decode method_5_code 49 = .ok (.ireturn, 1) := by decide +kernel
theorem d4_50 : decode method_5_code 50 = .ok (.lload_n 0, 1) := by decide +kernel
theorem d4_51 : decode method_5_code 51 = .ok (.iconst 5, 1) := by decide +kernel
theorem d4_52 : decode method_5_code 52 = .ok (.invokestatic 53, 3) := by decide +kernel
theorem d4_55 : decode method_5_code 55 = .ok (.ifCond .ne 5, 3) := by decide +kernel
theorem d4_58 : decode method_5_code 58 = .ok (.iconst 5, 1) := by decide +kernel
theorem d4_59 : decode method_5_code 59 = .ok (.ireturn, 1) := by decide +kernel
theorem d4_60 : decode method_5_code 60 = .ok (.lload_n 0, 1) := by decide +kernel
theorem d4_61 : decode method_5_code 61 = .ok (.bipush 6, 2) := by decide +kernel
theorem d4_63 : decode method_5_code 63 = .ok (.invokestatic 53, 3) := by decide +kernel
theorem d4_66 : decode method_5_code 66 = .ok (.ifCond .ne 6, 3) := by decide +kernel
theorem d4_69 : decode method_5_code 69 = .ok (.bipush 6, 2) := by decide +kernel
theorem d4_71 : decode method_5_code 71 = .ok (.ireturn, 1) := by decide +kernel
theorem d4_72 : decode method_5_code 72 = .ok (.lload_n 0, 1) := by decide +kernel
theorem d4_73 : decode method_5_code 73 = .ok (.bipush 7, 2) := by decide +kernel
theorem d4_75 : decode method_5_code 75 = .ok (.invokestatic 53, 3) := by decide +kernel
theorem d4_78 : decode method_5_code 78 = .ok (.ifCond .ne 6, 3) := by decide +kernel
theorem d4_81 : decode method_5_code 81 = .ok (.bipush 7, 2) := by decide +kernel
theorem d4_83 : decode method_5_code 83 = .ok (.ireturn, 1) := by decide +kernel
theorem d4_84 : decode method_5_code 84 = .ok (.bipush 8, 2) := by decide +kernel
theorem d4_86 : decode method_5_code 86 = .ok (.ireturn, 1) := by decide +kernel
def F4 (x0 : Int64) : Int32 := (if (F5 x0 (0 : Int32)) = (0 : Int32) then (0 : Int32) else (if (F5 x0 (1 : Int32)) = (0 : Int32) then (1 : Int32) else (if (F5 x0 (2 : Int32)) = (0 : Int32) then (2 : Int32) else (if (F5 x0 (3 : Int32)) = (0 : Int32) then (3 : Int32) else (if (F5 x0 (4 : Int32)) = (0 : Int32) then (4 : Int32) else (if (F5 x0 (5 : Int32)) = (0 : Int32) then (5 : Int32) else (if (F5 x0 (6 : Int32)) = (0 : Int32) then (6 : Int32) else (if (F5 x0 (7 : Int32)) = (0 : Int32) then (7 : Int32) else (8 : Int32)))))))))
theorem own_pn4 : plainName "com/example/sourcebill/sourcebill/scan/WordsZeroOrAbovePinLaw" = true := by first | (simp [plainName, overriddenIn]; done) | decide +kernel
set_option maxRecDepth 65536 in
set_option maxHeartbeats 40000000 in
theorem met_4 (l : Launch) (Z : State) (a0 : Array Value) (hw : ∀ d ∈ tables_1, d.before a0 Z = true) (h0 : Heap) (n0 : Nat) (hn : n0 ≤ h0.size) (x0 : Int64) : own_Met l Z n0 (⟨"com/example/sourcebill/sourcebill/scan/WordsZeroOrAbovePinLaw", "firstZero", "(J)I"⟩ : MethodName) method_5_code 2 (some .int) ({ frames := 1, cells := 0, slots := 0, locals := 14 } : Room) #[(.long x0)] h0 (fun v h => v = some (.int (F4 x0)) ∧ h = h0) := by
  refine own_enter (L := #[.val (.long x0), .second]) (plainFor_of_name own_pn4) hw hn (fun m => by first | (simp [entryFrame, mkF, argsToLocals, Value.category]; done) | rfl) (fun K T hK M X => ?_)
  refine own_lloadN M X d4_0 rfl rfl ?_
  refine own_iconst M X (v := (0 : Int32)) d4_1 rfl rfl ?_
  refine own_callP M X (yrm := ({ frames := 0, cells := 0, slots := 0, locals := 0 } : Room)) [(.long x0), (.int (0 : Int32))] (hw _ (List.mem_of_getElem? (i := 20) rfl)) (hw _ (List.mem_of_getElem? (i := 21) rfl)) (hw _ (List.mem_of_getElem? (i := 7) rfl)) (hw _ (List.mem_of_getElem? (i := 22) rfl)) (by decide) (met_5 _ Z a0 hw h0 n0 X.size x0 (0 : Int32)) rfl d4_2 rfl own_pd0 rfl rfl 0 (Nat.le_of_eq rfl) (by decide) (by decide) rfl rfl ?_
  intro T1 X2
  refine own_if_ne M X2 d4_5 (by decide) rfl rfl (fun q3 => ?_) (fun q3 => ?_)
  · skip
    refine own_lloadN M X2 d4_10 rfl rfl ?_
    refine own_iconst M X2 (v := (1 : Int32)) d4_11 rfl rfl ?_
    refine own_callP M X2 (yrm := ({ frames := 0, cells := 0, slots := 0, locals := 0 } : Room)) [(.long x0), (.int (1 : Int32))] (hw _ (List.mem_of_getElem? (i := 20) rfl)) (hw _ (List.mem_of_getElem? (i := 21) rfl)) (hw _ (List.mem_of_getElem? (i := 7) rfl)) (hw _ (List.mem_of_getElem? (i := 22) rfl)) (by decide) (met_5 _ Z a0 hw h0 n0 X2.size x0 (1 : Int32)) rfl d4_12 rfl own_pd0 rfl rfl 0 (Nat.le_of_eq rfl) (by decide) (by decide) rfl rfl ?_
    intro T4 X5
    refine own_if_ne M X5 d4_15 (by decide) rfl rfl (fun q6 => ?_) (fun q6 => ?_)
    · skip
      refine own_lloadN M X5 d4_20 rfl rfl ?_
      refine own_iconst M X5 (v := (2 : Int32)) d4_21 rfl rfl ?_
      refine own_callP M X5 (yrm := ({ frames := 0, cells := 0, slots := 0, locals := 0 } : Room)) [(.long x0), (.int (2 : Int32))] (hw _ (List.mem_of_getElem? (i := 20) rfl)) (hw _ (List.mem_of_getElem? (i := 21) rfl)) (hw _ (List.mem_of_getElem? (i := 7) rfl)) (hw _ (List.mem_of_getElem? (i := 22) rfl)) (by decide) (met_5 _ Z a0 hw h0 n0 X5.size x0 (2 : Int32)) rfl d4_22 rfl own_pd0 rfl rfl 0 (Nat.le_of_eq rfl) (by decide) (by decide) rfl rfl ?_
      intro T7 X8
      refine own_if_ne M X8 d4_25 (by decide) rfl rfl (fun q9 => ?_) (fun q9 => ?_)
      · skip
        refine own_lloadN M X8 d4_30 rfl rfl ?_
        refine own_iconst M X8 (v := (3 : Int32)) d4_31 rfl rfl ?_
        refine own_callP M X8 (yrm := ({ frames := 0, cells := 0, slots := 0, locals := 0 } : Room)) [(.long x0), (.int (3 : Int32))] (hw _ (List.mem_of_getElem? (i := 20) rfl)) (hw _ (List.mem_of_getElem? (i := 21) rfl)) (hw _ (List.mem_of_getElem? (i := 7) rfl)) (hw _ (List.mem_of_getElem? (i := 22) rfl)) (by decide) (met_5 _ Z a0 hw h0 n0 X8.size x0 (3 : Int32)) rfl d4_32 rfl own_pd0 rfl rfl 0 (Nat.le_of_eq rfl) (by decide) (by decide) rfl rfl ?_
        intro T10 X11
        refine own_if_ne M X11 d4_35 (by decide) rfl rfl (fun q12 => ?_) (fun q12 => ?_)
        · skip
          refine own_lloadN M X11 d4_40 rfl rfl ?_
          refine own_iconst M X11 (v := (4 : Int32)) d4_41 rfl rfl ?_
          refine own_callP M X11 (yrm := ({ frames := 0, cells := 0, slots := 0, locals := 0 } : Room)) [(.long x0), (.int (4 : Int32))] (hw _ (List.mem_of_getElem? (i := 20) rfl)) (hw _ (List.mem_of_getElem? (i := 21) rfl)) (hw _ (List.mem_of_getElem? (i := 7) rfl)) (hw _ (List.mem_of_getElem? (i := 22) rfl)) (by decide) (met_5 _ Z a0 hw h0 n0 X11.size x0 (4 : Int32)) rfl d4_42 rfl own_pd0 rfl rfl 0 (Nat.le_of_eq rfl) (by decide) (by decide) rfl rfl ?_
          intro T13 X14
          refine own_if_ne M X14 d4_45 (by decide) rfl rfl (fun q15 => ?_) (fun q15 => ?_)
          · skip
            refine own_lloadN M X14 d4_50 rfl rfl ?_
            refine own_iconst M X14 (v := (5 : Int32)) d4_51 rfl rfl ?_
            refine own_callP M X14 (yrm := ({ frames := 0, cells := 0, slots := 0, locals := 0 } : Room)) [(.long x0), (.int (5 : Int32))] (hw _ (List.mem_of_getElem? (i := 20) rfl)) (hw _ (List.mem_of_getElem? (i := 21) rfl)) (hw _ (List.mem_of_getElem? (i := 7) rfl)) (hw _ (List.mem_of_getElem? (i := 22) rfl)) (by decide) (met_5 _ Z a0 hw h0 n0 X14.size x0 (5 : Int32)) rfl d4_52 rfl own_pd0 rfl rfl 0 (Nat.le_of_eq rfl) (by decide) (by decide) rfl rfl ?_
            intro T16 X17
            refine own_if_ne M X17 d4_55 (by decide) rfl rfl (fun q18 => ?_) (fun q18 => ?_)
            · skip
              refine own_lloadN M X17 d4_60 rfl rfl ?_
              refine own_bipush M X17 (v := (6 : Int32)) d4_61 rfl rfl ?_
              refine own_callP M X17 (yrm := ({ frames := 0, cells := 0, slots := 0, locals := 0 } : Room)) [(.long x0), (.int (6 : Int32))] (hw _ (List.mem_of_getElem? (i := 20) rfl)) (hw _ (List.mem_of_getElem? (i := 21) rfl)) (hw _ (List.mem_of_getElem? (i := 7) rfl)) (hw _ (List.mem_of_getElem? (i := 22) rfl)) (by decide) (met_5 _ Z a0 hw h0 n0 X17.size x0 (6 : Int32)) rfl d4_63 rfl own_pd0 rfl rfl 0 (Nat.le_of_eq rfl) (by decide) (by decide) rfl rfl ?_
              intro T19 X20
              refine own_if_ne M X20 d4_66 (by decide) rfl rfl (fun q21 => ?_) (fun q21 => ?_)
              · skip
                refine own_lloadN M X20 d4_72 rfl rfl ?_
                refine own_bipush M X20 (v := (7 : Int32)) d4_73 rfl rfl ?_
                refine own_callP M X20 (yrm := ({ frames := 0, cells := 0, slots := 0, locals := 0 } : Room)) [(.long x0), (.int (7 : Int32))] (hw _ (List.mem_of_getElem? (i := 20) rfl)) (hw _ (List.mem_of_getElem? (i := 21) rfl)) (hw _ (List.mem_of_getElem? (i := 7) rfl)) (hw _ (List.mem_of_getElem? (i := 22) rfl)) (by decide) (met_5 _ Z a0 hw h0 n0 X20.size x0 (7 : Int32)) rfl d4_75 rfl own_pd0 rfl rfl 0 (Nat.le_of_eq rfl) (by decide) (by decide) rfl rfl ?_
                intro T22 X23
                refine own_if_ne M X23 d4_78 (by decide) rfl rfl (fun q24 => ?_) (fun q24 => ?_)
                · skip
                  refine own_bipush M X23 (v := (8 : Int32)) d4_84 rfl rfl ?_
                  exact own_retI M X23 d4_86 ⟨by rw [F4, if_neg q3, if_neg q6, if_neg q9, if_neg q12, if_neg q15, if_neg q18, if_neg q21, if_neg q24], rfl⟩
                · skip
                  refine own_bipush M X23 (v := (7 : Int32)) d4_81 rfl rfl ?_
                  exact own_retI M X23 d4_83 ⟨by rw [F4, if_neg q3, if_neg q6, if_neg q9, if_neg q12, if_neg q15, if_neg q18, if_neg q21, if_pos q24], rfl⟩
              · skip
                refine own_bipush M X20 (v := (6 : Int32)) d4_69 rfl rfl ?_
                exact own_retI M X20 d4_71 ⟨by rw [F4, if_neg q3, if_neg q6, if_neg q9, if_neg q12, if_neg q15, if_neg q18, if_pos q21], rfl⟩
            · skip
              refine own_iconst M X17 (v := (5 : Int32)) d4_58 rfl rfl ?_
              exact own_retI M X17 d4_59 ⟨by rw [F4, if_neg q3, if_neg q6, if_neg q9, if_neg q12, if_neg q15, if_pos q18], rfl⟩
          · skip
            refine own_iconst M X14 (v := (4 : Int32)) d4_48 rfl rfl ?_
            exact own_retI M X14 d4_49 ⟨by rw [F4, if_neg q3, if_neg q6, if_neg q9, if_neg q12, if_pos q15], rfl⟩
        · skip
          refine own_iconst M X11 (v := (3 : Int32)) d4_38 rfl rfl ?_
          exact own_retI M X11 d4_39 ⟨by rw [F4, if_neg q3, if_neg q6, if_neg q9, if_pos q12], rfl⟩
      · skip
        refine own_iconst M X8 (v := (2 : Int32)) d4_28 rfl rfl ?_
        exact own_retI M X8 d4_29 ⟨by rw [F4, if_neg q3, if_neg q6, if_pos q9], rfl⟩
    · skip
      refine own_iconst M X5 (v := (1 : Int32)) d4_18 rfl rfl ?_
      exact own_retI M X5 d4_19 ⟨by rw [F4, if_neg q3, if_pos q6], rfl⟩
  · skip
    refine own_iconst M X2 (v := (0 : Int32)) d4_8 rfl rfl ?_
    exact own_retI M X2 d4_9 ⟨by rw [F4, if_pos q3], rfl⟩
theorem d6_0 : decode method_6_code 0 = .ok (.lload_n 0, 1) := by decide +kernel
theorem d6_1 : decode method_6_code 1 = .ok (.iload 4, 2) := by decide +kernel
theorem d6_3 : decode method_6_code 3 = .ok (.invokestatic 53, 3) := by decide +kernel
theorem d6_6 : decode method_6_code 6 = .ok (.istore 6, 2) := by decide +kernel
theorem d6_8 : decode method_6_code 8 = .ok (.lload_n 2, 1) := by decide +kernel
theorem d6_9 : decode method_6_code 9 = .ok (.bipush 8, 2) := by decide +kernel
theorem d6_11 : decode method_6_code 11 = .ok (.iload 4, 2) := by decide +kernel
theorem d6_13 : decode method_6_code 13 = .ok (.imul, 1) := by decide +kernel
theorem d6_14 : decode method_6_code 14 = .ok (.bipush 7, 2) := by decide +kernel
theorem d6_16 : decode method_6_code 16 = .ok (.iadd, 1) := by decide +kernel
theorem d6_17 : decode method_6_code 17 = .ok (.lushr, 1) := by decide +kernel
theorem d6_18 : decode method_6_code 18 = .ok (.lconst 1, 1) := by decide +kernel
theorem d6_19 : decode method_6_code 19 = .ok (.land, 1) := by decide +kernel
theorem d6_20 : decode method_6_code 20 = .ok (.lconst 0, 1) := by decide +kernel
theorem d6_21 : decode method_6_code 21 = .ok (.lcmp, 1) := by decide +kernel
theorem d6_22 : decode method_6_code 22 = .ok (.ifCond .eq 7, 3) := by decide +kernel
theorem d6_25 : decode method_6_code 25 = .ok (.iconst 1, 1) := by decide +kernel
theorem d6_26 : decode method_6_code 26 = .ok (.goto 4, 3) := by decide +kernel
theorem d6_29 : decode method_6_code 29 = .ok (.iconst 0, 1) := by decide +kernel
theorem d6_30 : decode method_6_code 30 = .ok (.istore 7, 2) := by decide +kernel
theorem d6_32 : decode method_6_code 32 = .ok (.iload 6, 2) := by decide +kernel
theorem d6_34 : decode method_6_code 34 = .ok (.ifCond .ne 10, 3) := by decide +kernel
theorem d6_37 : decode method_6_code 37 = .ok (.iload 7, 2) := by decide +kernel
theorem d6_39 : decode method_6_code 39 = .ok (.ifCond .ne 5, 3) := by decide +kernel
theorem d6_42 : decode method_6_code 42 = .ok (.iconst 0, 1) := by decide +kernel
theorem d6_43 : decode method_6_code 43 = .ok (.ireturn, 1) := by decide +kernel
theorem d6_44 : decode method_6_code 44 = .ok (.iload 4, 2) := by decide +kernel
theorem d6_46 : decode method_6_code 46 = .ok (.iload 5, 2) := by decide +kernel
theorem d6_48 : decode method_6_code 48 = .ok (.if_icmp .ge 10, 3) := by decide +kernel
theorem d6_51 : decode method_6_code 51 = .ok (.iload 7, 2) := by decide +kernel
theorem d6_53 : decode method_6_code 53 = .ok (.ifCond .eq 5, 3) := by decide +kernel
theorem d6_56 : decode method_6_code 56 = .ok (.iconst 0, 1) := by decide +kernel
theorem d6_57 : decode method_6_code 57 = .ok (.ireturn, 1) := by decide +kernel
theorem d6_58 : decode method_6_code 58 = .ok (.iload 7, 2) := by decide +kernel
theorem d6_60 : decode method_6_code 60 = .ok (.ifCond .eq 11, 3) := by decide +kernel
theorem d6_63 : decode method_6_code 63 = .ok (.iload 6, 2) := by decide +kernel
theorem d6_65 : decode method_6_code 65 = .ok (.iconst 1, 1) := by decide +kernel
theorem d6_66 : decode method_6_code 66 = .ok (.if_icmp .le 5, 3) := by decide +kernel
theorem d6_69 : decode method_6_code 69 = .ok (.iconst 0, 1) := by decide +kernel
theorem d6_70 : decode method_6_code 70 = .ok (.ireturn, 1) := by decide +kernel
theorem d6_71 : decode method_6_code 71 = .ok (.iconst 1, 1) := by decide +kernel
theorem d6_72 : decode method_6_code 72 = .ok (.ireturn, 1) := by decide +kernel
def g6_8_l7 (u2 : Int64) (u4 : Int32) : Int32 := (if (((u2.toUInt64 >>> ((((8 : Int32) * u4) + (7 : Int32)) &&& 0x3f).toInt64.toUInt64).toInt64) &&& (1 : Int64)) = (0 : Int64) then (0 : Int32) else (1 : Int32))
set_option maxRecDepth 65536 in
set_option maxHeartbeats 40000000 in
theorem sg6_8 (l : Launch) (Z : State) (a0 : Array Value) (hw : ∀ d ∈ tables_1, d.before a0 Z = true) {n0 : Nat} {K : own_Cx} {P : Option Value → Heap → Prop} {T : State} {h : Heap} {cl sl : Nat} (M : own_Mx Z a0 K method_6_code "com/example/sourcebill/sourcebill/scan/WordsZeroOrAbovePinLaw" 8 (some .boolean) ({ frames := 1, cells := 0, slots := 0, locals := 14 } : Room)) (X : own_Sx n0 K T h cl sl) (u0 : Int64) (u2 : Int64) (u4 : Int32) (u5 : Int32) (u6 : Int32)
    (hr : ∀ T', own_Sx n0 K T' h cl sl → own_Fin n0 K P T' 32 #[.val (.long u0), .second, .val (.long u2), .second, .val (.int u4), .val (.int u5), .val (.int u6), .val (.int (g6_8_l7 u2 u4))] []) : own_Fin n0 K P T 8 #[.val (.long u0), .second, .val (.long u2), .second, .val (.int u4), .val (.int u5), .val (.int u6), .unset] [] := by
  refine own_lloadN M X d6_8 rfl rfl ?_
  refine own_bipush M X (v := (8 : Int32)) d6_9 rfl rfl ?_
  refine own_iload M X d6_11 rfl rfl ?_
  refine own_imul M X d6_13 rfl ?_
  refine own_bipush M X (v := (7 : Int32)) d6_14 rfl rfl ?_
  refine own_iadd M X d6_16 rfl ?_
  refine own_lushr M X d6_17 rfl ?_
  refine own_lconst M X (v := (1 : Int64)) d6_18 rfl rfl ?_
  refine own_land M X d6_19 rfl ?_
  refine own_lconst M X (v := (0 : Int64)) d6_20 rfl rfl ?_
  refine own_lcmp_eq M X d6_21 rfl d6_22 (by decide) rfl rfl (fun q1 => ?_) (fun q1 => ?_)
  · skip
    refine own_iconst M X (v := (0 : Int32)) d6_29 rfl rfl ?_
    refine own_istore M X (L' := #[.val (.long u0), .second, .val (.long u2), .second, .val (.int u4), .val (.int u5), .val (.int u6), .val (.int (0 : Int32))]) d6_30 rfl rfl ?_
    have hr1 := hr T X
    rw [g6_8_l7, if_pos q1] at hr1
    exact hr1
  · skip
    refine own_iconst M X (v := (1 : Int32)) d6_25 rfl rfl ?_
    refine own_goto M X d6_26 (by decide) rfl ?_
    refine own_istore M X (L' := #[.val (.long u0), .second, .val (.long u2), .second, .val (.int u4), .val (.int u5), .val (.int u6), .val (.int (1 : Int32))]) d6_30 rfl rfl ?_
    have hr1 := hr T X
    rw [g6_8_l7, if_neg q1] at hr1
    exact hr1
def T6_58 (u6 : Int32) (u7 : Int32) : Int32 := (if u7 = (0 : Int32) then (1 : Int32) else (if (1 : Int32) < u6 then (0 : Int32) else (1 : Int32)))
set_option maxRecDepth 65536 in
set_option maxHeartbeats 40000000 in
theorem tl6_58 (l : Launch) (Z : State) (a0 : Array Value) (hw : ∀ d ∈ tables_1, d.before a0 Z = true) {n0 : Nat} {K : own_Cx} {P : Option Value → Heap → Prop} {T : State} {h : Heap} (M : own_Mx Z a0 K method_6_code "com/example/sourcebill/sourcebill/scan/WordsZeroOrAbovePinLaw" 8 (some .boolean) ({ frames := 1, cells := 0, slots := 0, locals := 14 } : Room)) (X : own_Sx n0 K T h 0 0) (u0 : Int64) (u2 : Int64) (u4 : Int32) (u5 : Int32) (u6 : Int32) (u7 : Int32)
    (hP : P (some (.int (T6_58 u6 u7))) h) : own_Fin n0 K P T 58 #[.val (.long u0), .second, .val (.long u2), .second, .val (.int u4), .val (.int u5), .val (.int u6), .val (.int u7)] [] := by
  refine own_iload M X d6_58 rfl rfl ?_
  refine own_if_eq M X d6_60 (by decide) rfl rfl (fun q1 => ?_) (fun q1 => ?_)
  · skip
    refine own_iconst M X (v := (1 : Int32)) d6_71 rfl rfl ?_
    exact own_retN M X (z' := (1 : Int32)) (by simp) d6_72 rfl (by rw [T6_58, if_pos q1] at hP; exact hP)
  · skip
    refine own_iload M X d6_63 rfl rfl ?_
    refine own_iconst M X (v := (1 : Int32)) d6_65 rfl rfl ?_
    refine own_icmp_le M X d6_66 (by decide) rfl rfl (fun q2 => ?_) (fun q2 => ?_)
    · skip
      refine own_iconst M X (v := (1 : Int32)) d6_71 rfl rfl ?_
      exact own_retN M X (z' := (1 : Int32)) (by simp) d6_72 rfl (by rw [T6_58, if_neg q1, if_neg q2] at hP; exact hP)
    · skip
      refine own_iconst M X (v := (0 : Int32)) d6_69 rfl rfl ?_
      exact own_retN M X (z' := (0 : Int32)) (by simp) d6_70 rfl (by rw [T6_58, if_neg q1, if_pos q2] at hP; exact hP)
def T6_44 (u4 : Int32) (u5 : Int32) (u6 : Int32) (u7 : Int32) : Int32 := (if u4 < u5 then (if u7 = (0 : Int32) then (T6_58 u6 u7) else (0 : Int32)) else (T6_58 u6 u7))
set_option maxRecDepth 65536 in
set_option maxHeartbeats 40000000 in
theorem tl6_44 (l : Launch) (Z : State) (a0 : Array Value) (hw : ∀ d ∈ tables_1, d.before a0 Z = true) {n0 : Nat} {K : own_Cx} {P : Option Value → Heap → Prop} {T : State} {h : Heap} (M : own_Mx Z a0 K method_6_code "com/example/sourcebill/sourcebill/scan/WordsZeroOrAbovePinLaw" 8 (some .boolean) ({ frames := 1, cells := 0, slots := 0, locals := 14 } : Room)) (X : own_Sx n0 K T h 0 0) (u0 : Int64) (u2 : Int64) (u4 : Int32) (u5 : Int32) (u6 : Int32) (u7 : Int32)
    (hP : P (some (.int (T6_44 u4 u5 u6 u7))) h) : own_Fin n0 K P T 44 #[.val (.long u0), .second, .val (.long u2), .second, .val (.int u4), .val (.int u5), .val (.int u6), .val (.int u7)] [] := by
  refine own_iload M X d6_44 rfl rfl ?_
  refine own_iload M X d6_46 rfl rfl ?_
  refine own_icmp_ge M X d6_48 (by decide) rfl rfl (fun q1 => ?_) (fun q1 => ?_)
  · skip
    exact tl6_58 l Z a0 hw M X u0 u2 u4 u5 u6 u7 (by rw [T6_44, if_neg q1] at hP; exact hP)
  · skip
    refine own_iload M X d6_51 rfl rfl ?_
    refine own_if_eq M X d6_53 (by decide) rfl rfl (fun q2 => ?_) (fun q2 => ?_)
    · skip
      exact tl6_58 l Z a0 hw M X u0 u2 u4 u5 u6 u7 (by rw [T6_44, if_pos q1, if_pos q2] at hP; exact hP)
    · skip
      refine own_iconst M X (v := (0 : Int32)) d6_56 rfl rfl ?_
      exact own_retN M X (z' := (0 : Int32)) (by simp) d6_57 rfl (by rw [T6_44, if_pos q1, if_neg q2] at hP; exact hP)
def F6 (x0 : Int64) (x1 : Int64) (x2 : Int32) (x3 : Int32) : Int32 := (if (F5 x0 x2) = (0 : Int32) then (if (g6_8_l7 x1 x2) = (0 : Int32) then (0 : Int32) else (T6_44 x2 x3 (F5 x0 x2) (g6_8_l7 x1 x2))) else (T6_44 x2 x3 (F5 x0 x2) (g6_8_l7 x1 x2)))
theorem own_pn6 : plainName "com/example/sourcebill/sourcebill/scan/WordsZeroOrAbovePinLaw" = true := by first | (simp [plainName, overriddenIn]; done) | decide +kernel
set_option maxRecDepth 65536 in
set_option maxHeartbeats 40000000 in
theorem met_6 (l : Launch) (Z : State) (a0 : Array Value) (hw : ∀ d ∈ tables_1, d.before a0 Z = true) (h0 : Heap) (n0 : Nat) (hn : n0 ≤ h0.size) (x0 : Int64) (x1 : Int64) (x2 : Int32) (x3 : Int32) : own_Met l Z n0 (⟨"com/example/sourcebill/sourcebill/scan/WordsZeroOrAbovePinLaw", "ok", "(JJII)Z"⟩ : MethodName) method_6_code 8 (some .boolean) ({ frames := 1, cells := 0, slots := 0, locals := 14 } : Room) #[(.long x0), (.long x1), (.int x2), (.int x3)] h0 (fun v h => v = some (.int (F6 x0 x1 x2 x3)) ∧ h = h0) := by
  refine own_enter (L := #[.val (.long x0), .second, .val (.long x1), .second, .val (.int x2), .val (.int x3), .unset, .unset]) (plainFor_of_name own_pn6) hw hn (fun m => by first | (simp [entryFrame, mkF, argsToLocals, Value.category]; done) | rfl) (fun K T hK M X => ?_)
  refine own_lloadN M X d6_0 rfl rfl ?_
  refine own_iload M X d6_1 rfl rfl ?_
  refine own_callP M X (yrm := ({ frames := 0, cells := 0, slots := 0, locals := 0 } : Room)) [(.long x0), (.int x2)] (hw _ (List.mem_of_getElem? (i := 20) rfl)) (hw _ (List.mem_of_getElem? (i := 21) rfl)) (hw _ (List.mem_of_getElem? (i := 7) rfl)) (hw _ (List.mem_of_getElem? (i := 22) rfl)) (by decide) (met_5 _ Z a0 hw h0 n0 X.size x0 x2) rfl d6_3 rfl own_pd0 rfl rfl 0 (Nat.le_of_eq rfl) (by decide) (by decide) rfl rfl ?_
  intro T1 X2
  refine own_istore M X2 (L' := #[.val (.long x0), .second, .val (.long x1), .second, .val (.int x2), .val (.int x3), .val (.int (F5 x0 x2)), .unset]) d6_6 rfl rfl ?_
  refine sg6_8 l Z a0 hw M X2 x0 x1 x2 x3 (F5 x0 x2) (fun T3 X4 => ?_)
  refine own_iload M X4 d6_32 rfl rfl ?_
  refine own_if_ne M X4 d6_34 (by decide) rfl rfl (fun q5 => ?_) (fun q5 => ?_)
  · skip
    exact tl6_44 l Z a0 hw M X4 x0 x1 x2 x3 (F5 x0 x2) (g6_8_l7 x1 x2) ⟨by rw [F6, if_neg q5], rfl⟩
  · skip
    refine own_iload M X4 d6_37 rfl rfl ?_
    refine own_if_ne M X4 d6_39 (by decide) rfl rfl (fun q6 => ?_) (fun q6 => ?_)
    · skip
      exact tl6_44 l Z a0 hw M X4 x0 x1 x2 x3 (F5 x0 x2) (g6_8_l7 x1 x2) ⟨by rw [F6, if_pos q5, if_neg q6], rfl⟩
    · skip
      refine own_iconst M X4 (v := (0 : Int32)) d6_42 rfl rfl ?_
      exact own_retN M X4 (z' := (0 : Int32)) (by simp) d6_43 rfl ⟨by rw [F6, if_pos q5, if_pos q6], rfl⟩
def T0_66 (u9 : Int64) (u11 : Int64) : Int32 := (if (u11 &&& (9187201950435737471 : Int64)) = (0 : Int64) then (if (F6 u9 u11 (0 : Int32) (F4 u9)) = (0 : Int32) then (0 : Int32) else (if (F6 u9 u11 (1 : Int32) (F4 u9)) = (0 : Int32) then (0 : Int32) else (if (F6 u9 u11 (2 : Int32) (F4 u9)) = (0 : Int32) then (0 : Int32) else (if (F6 u9 u11 (3 : Int32) (F4 u9)) = (0 : Int32) then (0 : Int32) else (if (F6 u9 u11 (4 : Int32) (F4 u9)) = (0 : Int32) then (0 : Int32) else (if (F6 u9 u11 (5 : Int32) (F4 u9)) = (0 : Int32) then (0 : Int32) else (if (F6 u9 u11 (6 : Int32) (F4 u9)) = (0 : Int32) then (0 : Int32) else (if (F6 u9 u11 (7 : Int32) (F4 u9)) = (0 : Int32) then (0 : Int32) else (1 : Int32))))))))) else (0 : Int32))
set_option maxRecDepth 65536 in
set_option maxHeartbeats 40000000 in
theorem tl0_66 (l : Launch) (Z : State) (a0 : Array Value) (hw : ∀ d ∈ tables_1, d.before a0 Z = true) {n0 : Nat} {K : own_Cx} {P : Option Value → Heap → Prop} {T : State} {h : Heap} (M : own_Mx Z a0 K code "com/example/sourcebill/sourcebill/scan/WordsZeroOrAbovePinLaw" maxLocals ret room_1) (X : own_Sx n0 K T h 0 0) (u0 : Int64) (u2 : Int32) (u3 : Int64) (u5 : Int64) (u7 : Int64) (u9 : Int64) (u11 : Int64)
    (hP : P (some (.int (T0_66 u9 u11))) h) : own_Fin n0 K P T 66 #[.val (.long u0), .second, .val (.int u2), .val (.long u3), .second, .val (.long u5), .second, .val (.long u7), .second, .val (.long u9), .second, .val (.long u11), .second, .unset] [] := by
  refine own_lload M X at_66 rfl rfl ?_
  refine own_ldc2_w M X (hw _ (List.mem_of_getElem? (i := 16) rfl)) at_68 rfl ?_
  refine own_land M X at_71 rfl ?_
  refine own_lconst M X (v := (0 : Int64)) at_72 rfl rfl ?_
  refine own_lcmp_eq M X at_73 rfl at_74 (by decide) rfl rfl (fun q1 => ?_) (fun q1 => ?_)
  · skip
    refine own_lload M X at_79 rfl rfl ?_
    refine own_callP M X (yrm := ({ frames := 1, cells := 0, slots := 0, locals := 14 } : Room)) [(.long u9)] (hw _ (List.mem_of_getElem? (i := 17) rfl)) (hw _ (List.mem_of_getElem? (i := 18) rfl)) (hw _ (List.mem_of_getElem? (i := 7) rfl)) (hw _ (List.mem_of_getElem? (i := 19) rfl)) (by decide) (met_4 _ Z a0 hw h n0 X.size u9) rfl at_81 rfl own_pd4 rfl rfl 0 (Nat.le_of_eq rfl) (by decide) (by decide) rfl rfl ?_
    intro T2 X3
    refine own_istore M X3 (L' := #[.val (.long u0), .second, .val (.int u2), .val (.long u3), .second, .val (.long u5), .second, .val (.long u7), .second, .val (.long u9), .second, .val (.long u11), .second, .val (.int (F4 u9))]) at_84 rfl rfl ?_
    refine own_lload M X3 at_86 rfl rfl ?_
    refine own_lload M X3 at_88 rfl rfl ?_
    refine own_iconst M X3 (v := (0 : Int32)) at_90 rfl rfl ?_
    refine own_iload M X3 at_91 rfl rfl ?_
    refine own_callP M X3 (yrm := ({ frames := 1, cells := 0, slots := 0, locals := 14 } : Room)) [(.long u9), (.long u11), (.int (0 : Int32)), (.int (F4 u9))] (hw _ (List.mem_of_getElem? (i := 24) rfl)) (hw _ (List.mem_of_getElem? (i := 25) rfl)) (hw _ (List.mem_of_getElem? (i := 7) rfl)) (hw _ (List.mem_of_getElem? (i := 26) rfl)) (by decide) (met_6 _ Z a0 hw h n0 X3.size u9 u11 (0 : Int32) (F4 u9)) rfl at_93 rfl own_pd5 rfl rfl 0 (Nat.le_of_eq rfl) (by decide) (by decide) rfl rfl ?_
    intro T4 X5
    refine own_if_eq M X5 at_96 (by decide) rfl rfl (fun q6 => ?_) (fun q6 => ?_)
    · skip
      refine own_iconst M X5 (v := (0 : Int32)) at_196 rfl rfl ?_
      exact own_retN M X5 (z' := (0 : Int32)) (by simp) at_197 rfl (by rw [T0_66, if_pos q1, if_pos q6] at hP; exact hP)
    · skip
      refine own_lload M X5 at_99 rfl rfl ?_
      refine own_lload M X5 at_101 rfl rfl ?_
      refine own_iconst M X5 (v := (1 : Int32)) at_103 rfl rfl ?_
      refine own_iload M X5 at_104 rfl rfl ?_
      refine own_callP M X5 (yrm := ({ frames := 1, cells := 0, slots := 0, locals := 14 } : Room)) [(.long u9), (.long u11), (.int (1 : Int32)), (.int (F4 u9))] (hw _ (List.mem_of_getElem? (i := 24) rfl)) (hw _ (List.mem_of_getElem? (i := 25) rfl)) (hw _ (List.mem_of_getElem? (i := 7) rfl)) (hw _ (List.mem_of_getElem? (i := 26) rfl)) (by decide) (met_6 _ Z a0 hw h n0 X5.size u9 u11 (1 : Int32) (F4 u9)) rfl at_106 rfl own_pd5 rfl rfl 0 (Nat.le_of_eq rfl) (by decide) (by decide) rfl rfl ?_
      intro T7 X8
      refine own_if_eq M X8 at_109 (by decide) rfl rfl (fun q9 => ?_) (fun q9 => ?_)
      · skip
        refine own_iconst M X8 (v := (0 : Int32)) at_196 rfl rfl ?_
        exact own_retN M X8 (z' := (0 : Int32)) (by simp) at_197 rfl (by rw [T0_66, if_pos q1, if_neg q6, if_pos q9] at hP; exact hP)
      · skip
        refine own_lload M X8 at_112 rfl rfl ?_
        refine own_lload M X8 at_114 rfl rfl ?_
        refine own_iconst M X8 (v := (2 : Int32)) at_116 rfl rfl ?_
        refine own_iload M X8 at_117 rfl rfl ?_
        refine own_callP M X8 (yrm := ({ frames := 1, cells := 0, slots := 0, locals := 14 } : Room)) [(.long u9), (.long u11), (.int (2 : Int32)), (.int (F4 u9))] (hw _ (List.mem_of_getElem? (i := 24) rfl)) (hw _ (List.mem_of_getElem? (i := 25) rfl)) (hw _ (List.mem_of_getElem? (i := 7) rfl)) (hw _ (List.mem_of_getElem? (i := 26) rfl)) (by decide) (met_6 _ Z a0 hw h n0 X8.size u9 u11 (2 : Int32) (F4 u9)) rfl at_119 rfl own_pd5 rfl rfl 0 (Nat.le_of_eq rfl) (by decide) (by decide) rfl rfl ?_
        intro T10 X11
        refine own_if_eq M X11 at_122 (by decide) rfl rfl (fun q12 => ?_) (fun q12 => ?_)
        · skip
          refine own_iconst M X11 (v := (0 : Int32)) at_196 rfl rfl ?_
          exact own_retN M X11 (z' := (0 : Int32)) (by simp) at_197 rfl (by rw [T0_66, if_pos q1, if_neg q6, if_neg q9, if_pos q12] at hP; exact hP)
        · skip
          refine own_lload M X11 at_125 rfl rfl ?_
          refine own_lload M X11 at_127 rfl rfl ?_
          refine own_iconst M X11 (v := (3 : Int32)) at_129 rfl rfl ?_
          refine own_iload M X11 at_130 rfl rfl ?_
          refine own_callP M X11 (yrm := ({ frames := 1, cells := 0, slots := 0, locals := 14 } : Room)) [(.long u9), (.long u11), (.int (3 : Int32)), (.int (F4 u9))] (hw _ (List.mem_of_getElem? (i := 24) rfl)) (hw _ (List.mem_of_getElem? (i := 25) rfl)) (hw _ (List.mem_of_getElem? (i := 7) rfl)) (hw _ (List.mem_of_getElem? (i := 26) rfl)) (by decide) (met_6 _ Z a0 hw h n0 X11.size u9 u11 (3 : Int32) (F4 u9)) rfl at_132 rfl own_pd5 rfl rfl 0 (Nat.le_of_eq rfl) (by decide) (by decide) rfl rfl ?_
          intro T13 X14
          refine own_if_eq M X14 at_135 (by decide) rfl rfl (fun q15 => ?_) (fun q15 => ?_)
          · skip
            refine own_iconst M X14 (v := (0 : Int32)) at_196 rfl rfl ?_
            exact own_retN M X14 (z' := (0 : Int32)) (by simp) at_197 rfl (by rw [T0_66, if_pos q1, if_neg q6, if_neg q9, if_neg q12, if_pos q15] at hP; exact hP)
          · skip
            refine own_lload M X14 at_138 rfl rfl ?_
            refine own_lload M X14 at_140 rfl rfl ?_
            refine own_iconst M X14 (v := (4 : Int32)) at_142 rfl rfl ?_
            refine own_iload M X14 at_143 rfl rfl ?_
            refine own_callP M X14 (yrm := ({ frames := 1, cells := 0, slots := 0, locals := 14 } : Room)) [(.long u9), (.long u11), (.int (4 : Int32)), (.int (F4 u9))] (hw _ (List.mem_of_getElem? (i := 24) rfl)) (hw _ (List.mem_of_getElem? (i := 25) rfl)) (hw _ (List.mem_of_getElem? (i := 7) rfl)) (hw _ (List.mem_of_getElem? (i := 26) rfl)) (by decide) (met_6 _ Z a0 hw h n0 X14.size u9 u11 (4 : Int32) (F4 u9)) rfl at_145 rfl own_pd5 rfl rfl 0 (Nat.le_of_eq rfl) (by decide) (by decide) rfl rfl ?_
            intro T16 X17
            refine own_if_eq M X17 at_148 (by decide) rfl rfl (fun q18 => ?_) (fun q18 => ?_)
            · skip
              refine own_iconst M X17 (v := (0 : Int32)) at_196 rfl rfl ?_
              exact own_retN M X17 (z' := (0 : Int32)) (by simp) at_197 rfl (by rw [T0_66, if_pos q1, if_neg q6, if_neg q9, if_neg q12, if_neg q15, if_pos q18] at hP; exact hP)
            · skip
              refine own_lload M X17 at_151 rfl rfl ?_
              refine own_lload M X17 at_153 rfl rfl ?_
              refine own_iconst M X17 (v := (5 : Int32)) at_155 rfl rfl ?_
              refine own_iload M X17 at_156 rfl rfl ?_
              refine own_callP M X17 (yrm := ({ frames := 1, cells := 0, slots := 0, locals := 14 } : Room)) [(.long u9), (.long u11), (.int (5 : Int32)), (.int (F4 u9))] (hw _ (List.mem_of_getElem? (i := 24) rfl)) (hw _ (List.mem_of_getElem? (i := 25) rfl)) (hw _ (List.mem_of_getElem? (i := 7) rfl)) (hw _ (List.mem_of_getElem? (i := 26) rfl)) (by decide) (met_6 _ Z a0 hw h n0 X17.size u9 u11 (5 : Int32) (F4 u9)) rfl at_158 rfl own_pd5 rfl rfl 0 (Nat.le_of_eq rfl) (by decide) (by decide) rfl rfl ?_
              intro T19 X20
              refine own_if_eq M X20 at_161 (by decide) rfl rfl (fun q21 => ?_) (fun q21 => ?_)
              · skip
                refine own_iconst M X20 (v := (0 : Int32)) at_196 rfl rfl ?_
                exact own_retN M X20 (z' := (0 : Int32)) (by simp) at_197 rfl (by rw [T0_66, if_pos q1, if_neg q6, if_neg q9, if_neg q12, if_neg q15, if_neg q18, if_pos q21] at hP; exact hP)
              · skip
                refine own_lload M X20 at_164 rfl rfl ?_
                refine own_lload M X20 at_166 rfl rfl ?_
                refine own_bipush M X20 (v := (6 : Int32)) at_168 rfl rfl ?_
                refine own_iload M X20 at_170 rfl rfl ?_
                refine own_callP M X20 (yrm := ({ frames := 1, cells := 0, slots := 0, locals := 14 } : Room)) [(.long u9), (.long u11), (.int (6 : Int32)), (.int (F4 u9))] (hw _ (List.mem_of_getElem? (i := 24) rfl)) (hw _ (List.mem_of_getElem? (i := 25) rfl)) (hw _ (List.mem_of_getElem? (i := 7) rfl)) (hw _ (List.mem_of_getElem? (i := 26) rfl)) (by decide) (met_6 _ Z a0 hw h n0 X20.size u9 u11 (6 : Int32) (F4 u9)) rfl at_172 rfl own_pd5 rfl rfl 0 (Nat.le_of_eq rfl) (by decide) (by decide) rfl rfl ?_
                intro T22 X23
                refine own_if_eq M X23 at_175 (by decide) rfl rfl (fun q24 => ?_) (fun q24 => ?_)
                · skip
                  refine own_iconst M X23 (v := (0 : Int32)) at_196 rfl rfl ?_
                  exact own_retN M X23 (z' := (0 : Int32)) (by simp) at_197 rfl (by rw [T0_66, if_pos q1, if_neg q6, if_neg q9, if_neg q12, if_neg q15, if_neg q18, if_neg q21, if_pos q24] at hP; exact hP)
                · skip
                  refine own_lload M X23 at_178 rfl rfl ?_
                  refine own_lload M X23 at_180 rfl rfl ?_
                  refine own_bipush M X23 (v := (7 : Int32)) at_182 rfl rfl ?_
                  refine own_iload M X23 at_184 rfl rfl ?_
                  refine own_callP M X23 (yrm := ({ frames := 1, cells := 0, slots := 0, locals := 14 } : Room)) [(.long u9), (.long u11), (.int (7 : Int32)), (.int (F4 u9))] (hw _ (List.mem_of_getElem? (i := 24) rfl)) (hw _ (List.mem_of_getElem? (i := 25) rfl)) (hw _ (List.mem_of_getElem? (i := 7) rfl)) (hw _ (List.mem_of_getElem? (i := 26) rfl)) (by decide) (met_6 _ Z a0 hw h n0 X23.size u9 u11 (7 : Int32) (F4 u9)) rfl at_186 rfl own_pd5 rfl rfl 0 (Nat.le_of_eq rfl) (by decide) (by decide) rfl rfl ?_
                  intro T25 X26
                  refine own_if_eq M X26 at_189 (by decide) rfl rfl (fun q27 => ?_) (fun q27 => ?_)
                  · skip
                    refine own_iconst M X26 (v := (0 : Int32)) at_196 rfl rfl ?_
                    exact own_retN M X26 (z' := (0 : Int32)) (by simp) at_197 rfl (by rw [T0_66, if_pos q1, if_neg q6, if_neg q9, if_neg q12, if_neg q15, if_neg q18, if_neg q21, if_neg q24, if_pos q27] at hP; exact hP)
                  · skip
                    refine own_iconst M X26 (v := (1 : Int32)) at_192 rfl rfl ?_
                    refine own_goto M X26 at_193 (by decide) rfl ?_
                    exact own_retN M X26 (z' := (1 : Int32)) (by simp) at_197 rfl (by rw [T0_66, if_pos q1, if_neg q6, if_neg q9, if_neg q12, if_neg q15, if_neg q18, if_neg q21, if_neg q24, if_neg q27] at hP; exact hP)
  · skip
    refine own_iconst M X (v := (0 : Int32)) at_77 rfl rfl ?_
    exact own_retN M X (z' := (0 : Int32)) (by simp) at_78 rfl (by rw [T0_66, if_neg q1] at hP; exact hP)
def F0 (x0 : Int64) (x1 : Int32) : Int32 := (T0_66 (((x0 &&& ((F2 (x1 &&& (255 : Int32))) ^^^ (-1 : Int64))) &&& (((F2 (((x1.toUInt32 >>> ((8 : Int32) &&& 31).toUInt32).toInt32) &&& (255 : Int32))) &&& ((F2 (x1 &&& (255 : Int32))) ^^^ (-1 : Int64))) ^^^ (-1 : Int64))) ||| (((F2 (((x1.toUInt32 >>> ((8 : Int32) &&& 31).toUInt32).toInt32) &&& (255 : Int32))) &&& ((F2 (x1 &&& (255 : Int32))) ^^^ (-1 : Int64))) &&& (72340172838076673 : Int64))) (F3 (((x0 &&& ((F2 (x1 &&& (255 : Int32))) ^^^ (-1 : Int64))) &&& (((F2 (((x1.toUInt32 >>> ((8 : Int32) &&& 31).toUInt32).toInt32) &&& (255 : Int32))) &&& ((F2 (x1 &&& (255 : Int32))) ^^^ (-1 : Int64))) ^^^ (-1 : Int64))) ||| (((F2 (((x1.toUInt32 >>> ((8 : Int32) &&& 31).toUInt32).toInt32) &&& (255 : Int32))) &&& ((F2 (x1 &&& (255 : Int32))) ^^^ (-1 : Int64))) &&& (72340172838076673 : Int64))) (F1)))
theorem own_pn0 : plainName "com/example/sourcebill/sourcebill/scan/WordsZeroOrAbovePinLaw" = true := by first | (simp [plainName, overriddenIn]; done) | decide +kernel
set_option maxRecDepth 65536 in
set_option maxHeartbeats 40000000 in
theorem met_0 (l : Launch) (Z : State) (a0 : Array Value) (hw : ∀ d ∈ tables_1, d.before a0 Z = true) (h0 : Heap) (n0 : Nat) (hn : n0 ≤ h0.size) (x0 : Int64) (x1 : Int32) : own_Met l Z n0 x code maxLocals ret room_1 #[(.long x0), (.int x1)] h0 (fun v h => v = some (.int (F0 x0 x1)) ∧ h = h0) := by
  refine own_enter (L := #[.val (.long x0), .second, .val (.int x1), .unset, .unset, .unset, .unset, .unset, .unset, .unset, .unset, .unset, .unset, .unset]) (plainFor_of_name own_pn0) hw hn (fun m => by first | (simp [entryFrame, mkF, argsToLocals, Value.category, maxLocals]; done) | rfl) (fun K T hK M X => ?_)
  refine own_callP M X (yrm := ({ frames := 0, cells := 0, slots := 0, locals := 0 } : Room)) [] (hw _ (List.mem_of_getElem? (i := 0) rfl)) (hw _ (List.mem_of_getElem? (i := 1) rfl)) (hw _ (List.mem_of_getElem? (i := 2) rfl)) (hw _ (List.mem_of_getElem? (i := 3) rfl)) (by decide) (met_1 _ Z a0 hw h0 n0 X.size) rfl at_0 rfl own_pd1 rfl rfl 0 (Nat.le_of_eq rfl) (by decide) (by decide) rfl rfl ?_
  intro T1 X2
  refine own_lstoreN M X2 (L' := #[.val (.long x0), .second, .val (.int x1), .val (.long (F1)), .second, .unset, .unset, .unset, .unset, .unset, .unset, .unset, .unset, .unset]) at_3 rfl rfl ?_
  refine own_iloadN M X2 at_4 rfl rfl ?_
  refine own_sipush M X2 (v := (255 : Int32)) at_5 rfl rfl ?_
  refine own_iand M X2 at_8 rfl ?_
  refine own_callP M X2 (yrm := ({ frames := 0, cells := 0, slots := 0, locals := 0 } : Room)) [(.int (x1 &&& (255 : Int32)))] (hw _ (List.mem_of_getElem? (i := 5) rfl)) (hw _ (List.mem_of_getElem? (i := 6) rfl)) (hw _ (List.mem_of_getElem? (i := 7) rfl)) (hw _ (List.mem_of_getElem? (i := 8) rfl)) (by decide) (met_2 _ Z a0 hw h0 n0 X2.size (x1 &&& (255 : Int32))) rfl at_9 rfl own_pd2 rfl rfl 0 (Nat.le_of_eq rfl) (by decide) (by decide) rfl rfl ?_
  intro T3 X4
  refine own_lstore M X4 (L' := #[.val (.long x0), .second, .val (.int x1), .val (.long (F1)), .second, .val (.long (F2 (x1 &&& (255 : Int32)))), .second, .unset, .unset, .unset, .unset, .unset, .unset, .unset]) at_12 rfl rfl ?_
  refine own_iloadN M X4 at_14 rfl rfl ?_
  refine own_bipush M X4 (v := (8 : Int32)) at_15 rfl rfl ?_
  refine own_iushr M X4 at_17 rfl ?_
  refine own_sipush M X4 (v := (255 : Int32)) at_18 rfl rfl ?_
  refine own_iand M X4 at_21 rfl ?_
  refine own_callP M X4 (yrm := ({ frames := 0, cells := 0, slots := 0, locals := 0 } : Room)) [(.int (((x1.toUInt32 >>> ((8 : Int32) &&& 31).toUInt32).toInt32) &&& (255 : Int32)))] (hw _ (List.mem_of_getElem? (i := 5) rfl)) (hw _ (List.mem_of_getElem? (i := 6) rfl)) (hw _ (List.mem_of_getElem? (i := 7) rfl)) (hw _ (List.mem_of_getElem? (i := 8) rfl)) (by decide) (met_2 _ Z a0 hw h0 n0 X4.size (((x1.toUInt32 >>> ((8 : Int32) &&& 31).toUInt32).toInt32) &&& (255 : Int32))) rfl at_22 rfl own_pd2 rfl rfl 0 (Nat.le_of_eq rfl) (by decide) (by decide) rfl rfl ?_
  intro T5 X6
  refine own_lload M X6 at_25 rfl rfl ?_
  refine own_ldc2_w M X6 (hw _ (List.mem_of_getElem? (i := 10) rfl)) at_27 rfl ?_
  refine own_lxor M X6 at_30 rfl ?_
  refine own_land M X6 at_31 rfl ?_
  refine own_lstore M X6 (L' := #[.val (.long x0), .second, .val (.int x1), .val (.long (F1)), .second, .val (.long (F2 (x1 &&& (255 : Int32)))), .second, .val (.long ((F2 (((x1.toUInt32 >>> ((8 : Int32) &&& 31).toUInt32).toInt32) &&& (255 : Int32))) &&& ((F2 (x1 &&& (255 : Int32))) ^^^ (-1 : Int64)))), .second, .unset, .unset, .unset, .unset, .unset]) at_32 rfl rfl ?_
  refine own_lloadN M X6 at_34 rfl rfl ?_
  refine own_lload M X6 at_35 rfl rfl ?_
  refine own_ldc2_w M X6 (hw _ (List.mem_of_getElem? (i := 10) rfl)) at_37 rfl ?_
  refine own_lxor M X6 at_40 rfl ?_
  refine own_land M X6 at_41 rfl ?_
  refine own_lload M X6 at_42 rfl rfl ?_
  refine own_ldc2_w M X6 (hw _ (List.mem_of_getElem? (i := 10) rfl)) at_44 rfl ?_
  refine own_lxor M X6 at_47 rfl ?_
  refine own_land M X6 at_48 rfl ?_
  refine own_lload M X6 at_49 rfl rfl ?_
  refine own_ldc2_w M X6 (hw _ (List.mem_of_getElem? (i := 11) rfl)) at_51 rfl ?_
  refine own_land M X6 at_54 rfl ?_
  refine own_lor M X6 at_55 rfl ?_
  refine own_lstore M X6 (L' := #[.val (.long x0), .second, .val (.int x1), .val (.long (F1)), .second, .val (.long (F2 (x1 &&& (255 : Int32)))), .second, .val (.long ((F2 (((x1.toUInt32 >>> ((8 : Int32) &&& 31).toUInt32).toInt32) &&& (255 : Int32))) &&& ((F2 (x1 &&& (255 : Int32))) ^^^ (-1 : Int64)))), .second, .val (.long (((x0 &&& ((F2 (x1 &&& (255 : Int32))) ^^^ (-1 : Int64))) &&& (((F2 (((x1.toUInt32 >>> ((8 : Int32) &&& 31).toUInt32).toInt32) &&& (255 : Int32))) &&& ((F2 (x1 &&& (255 : Int32))) ^^^ (-1 : Int64))) ^^^ (-1 : Int64))) ||| (((F2 (((x1.toUInt32 >>> ((8 : Int32) &&& 31).toUInt32).toInt32) &&& (255 : Int32))) &&& ((F2 (x1 &&& (255 : Int32))) ^^^ (-1 : Int64))) &&& (72340172838076673 : Int64)))), .second, .unset, .unset, .unset]) at_56 rfl rfl ?_
  refine own_lload M X6 at_58 rfl rfl ?_
  refine own_lloadN M X6 at_60 rfl rfl ?_
  refine own_callP M X6 (yrm := ({ frames := 0, cells := 0, slots := 0, locals := 0 } : Room)) [(.long (((x0 &&& ((F2 (x1 &&& (255 : Int32))) ^^^ (-1 : Int64))) &&& (((F2 (((x1.toUInt32 >>> ((8 : Int32) &&& 31).toUInt32).toInt32) &&& (255 : Int32))) &&& ((F2 (x1 &&& (255 : Int32))) ^^^ (-1 : Int64))) ^^^ (-1 : Int64))) ||| (((F2 (((x1.toUInt32 >>> ((8 : Int32) &&& 31).toUInt32).toInt32) &&& (255 : Int32))) &&& ((F2 (x1 &&& (255 : Int32))) ^^^ (-1 : Int64))) &&& (72340172838076673 : Int64)))), (.long (F1))] (hw _ (List.mem_of_getElem? (i := 12) rfl)) (hw _ (List.mem_of_getElem? (i := 13) rfl)) (hw _ (List.mem_of_getElem? (i := 2) rfl)) (hw _ (List.mem_of_getElem? (i := 14) rfl)) (by decide) (met_3 _ Z a0 hw h0 n0 X6.size (((x0 &&& ((F2 (x1 &&& (255 : Int32))) ^^^ (-1 : Int64))) &&& (((F2 (((x1.toUInt32 >>> ((8 : Int32) &&& 31).toUInt32).toInt32) &&& (255 : Int32))) &&& ((F2 (x1 &&& (255 : Int32))) ^^^ (-1 : Int64))) ^^^ (-1 : Int64))) ||| (((F2 (((x1.toUInt32 >>> ((8 : Int32) &&& 31).toUInt32).toInt32) &&& (255 : Int32))) &&& ((F2 (x1 &&& (255 : Int32))) ^^^ (-1 : Int64))) &&& (72340172838076673 : Int64))) (F1)) rfl at_61 rfl own_pd3 rfl rfl 0 (Nat.le_of_eq rfl) (by decide) (by decide) rfl rfl ?_
  intro T7 X8
  refine own_lstore M X8 (L' := #[.val (.long x0), .second, .val (.int x1), .val (.long (F1)), .second, .val (.long (F2 (x1 &&& (255 : Int32)))), .second, .val (.long ((F2 (((x1.toUInt32 >>> ((8 : Int32) &&& 31).toUInt32).toInt32) &&& (255 : Int32))) &&& ((F2 (x1 &&& (255 : Int32))) ^^^ (-1 : Int64)))), .second, .val (.long (((x0 &&& ((F2 (x1 &&& (255 : Int32))) ^^^ (-1 : Int64))) &&& (((F2 (((x1.toUInt32 >>> ((8 : Int32) &&& 31).toUInt32).toInt32) &&& (255 : Int32))) &&& ((F2 (x1 &&& (255 : Int32))) ^^^ (-1 : Int64))) ^^^ (-1 : Int64))) ||| (((F2 (((x1.toUInt32 >>> ((8 : Int32) &&& 31).toUInt32).toInt32) &&& (255 : Int32))) &&& ((F2 (x1 &&& (255 : Int32))) ^^^ (-1 : Int64))) &&& (72340172838076673 : Int64)))), .second, .val (.long (F3 (((x0 &&& ((F2 (x1 &&& (255 : Int32))) ^^^ (-1 : Int64))) &&& (((F2 (((x1.toUInt32 >>> ((8 : Int32) &&& 31).toUInt32).toInt32) &&& (255 : Int32))) &&& ((F2 (x1 &&& (255 : Int32))) ^^^ (-1 : Int64))) ^^^ (-1 : Int64))) ||| (((F2 (((x1.toUInt32 >>> ((8 : Int32) &&& 31).toUInt32).toInt32) &&& (255 : Int32))) &&& ((F2 (x1 &&& (255 : Int32))) ^^^ (-1 : Int64))) &&& (72340172838076673 : Int64))) (F1))), .second, .unset]) at_64 rfl rfl ?_
  exact tl0_66 l Z a0 hw M X8 x0 x1 (F1) (F2 (x1 &&& (255 : Int32))) ((F2 (((x1.toUInt32 >>> ((8 : Int32) &&& 31).toUInt32).toInt32) &&& (255 : Int32))) &&& ((F2 (x1 &&& (255 : Int32))) ^^^ (-1 : Int64))) (((x0 &&& ((F2 (x1 &&& (255 : Int32))) ^^^ (-1 : Int64))) &&& (((F2 (((x1.toUInt32 >>> ((8 : Int32) &&& 31).toUInt32).toInt32) &&& (255 : Int32))) &&& ((F2 (x1 &&& (255 : Int32))) ^^^ (-1 : Int64))) ^^^ (-1 : Int64))) ||| (((F2 (((x1.toUInt32 >>> ((8 : Int32) &&& 31).toUInt32).toInt32) &&& (255 : Int32))) &&& ((F2 (x1 &&& (255 : Int32))) ^^^ (-1 : Int64))) &&& (72340172838076673 : Int64))) (F3 (((x0 &&& ((F2 (x1 &&& (255 : Int32))) ^^^ (-1 : Int64))) &&& (((F2 (((x1.toUInt32 >>> ((8 : Int32) &&& 31).toUInt32).toInt32) &&& (255 : Int32))) &&& ((F2 (x1 &&& (255 : Int32))) ^^^ (-1 : Int64))) ^^^ (-1 : Int64))) ||| (((F2 (((x1.toUInt32 >>> ((8 : Int32) &&& 31).toUInt32).toInt32) &&& (255 : Int32))) &&& ((F2 (x1 &&& (255 : Int32))) ^^^ (-1 : Int64))) &&& (72340172838076673 : Int64))) (F1)) ⟨by rw [F0], rfl⟩
theorem own_q5 (w : Int64) (k : Nat) (s : UInt64) (hs : s.toNat = k) (hk : k < 64) : (((w.toUInt64 >>> s).toInt64) &&& (255 : Int64)).toBitVec.toNat = w.toBitVec.toNat / 2 ^ k % 256 := by
  rw [Int64.toBitVec_and, BitVec.toNat_and, show (255 : Int64).toBitVec.toNat = 2 ^ 8 - 1 from by decide, Nat.and_two_pow_sub_one_eq_mod]
  simp only [UInt64.toBitVec_toInt64, UInt64.toBitVec_shiftRight, Int64.toBitVec_toUInt64]
  simp [BitVec.toNat_ushiftRight, Nat.shiftRight_eq_div_pow, hs, Nat.mod_eq_of_lt hk]
theorem own_q1 (w : Int64) (k : Nat) (s : UInt64) (hs : s.toNat = k) (hk : k < 64) : (((w.toUInt64 >>> s).toInt64) &&& (1 : Int64)).toBitVec.toNat = w.toBitVec.toNat / 2 ^ k % 2 := by
  rw [Int64.toBitVec_and, BitVec.toNat_and, show (1 : Int64).toBitVec.toNat = 2 ^ 1 - 1 from by decide, Nat.and_two_pow_sub_one_eq_mod]
  simp only [UInt64.toBitVec_toInt64, UInt64.toBitVec_shiftRight, Int64.toBitVec_toUInt64]
  simp [BitVec.toNat_ushiftRight, Nat.shiftRight_eq_div_pow, hs, Nat.mod_eq_of_lt hk]
theorem own_sm (y : Int64) (h : y.toBitVec.toNat < 256) : y.toInt = (y.toBitVec.toNat : Int) := by
  have : y.toInt = y.toBitVec.toInt := rfl
  rw [this, BitVec.toInt_eq_toNat_cond, if_pos (by omega)]
theorem own_F5 (w : Int64) (i : Int32) (k : Nat) (hs : ((((8 : Int32) * i) &&& 0x3f).toInt64.toUInt64).toNat = k) (hk : k < 64) : (F5 w i).toInt = ((w.toBitVec.toNat / 2 ^ k % 256 : Nat) : Int) := by
  unfold F5
  have e := own_q5 w k _ hs hk
  have e2 := own_sm _ (by rw [e]; exact Nat.mod_lt _ (by decide))
  have hb : w.toBitVec.toNat / 2 ^ k % 256 < 256 := Nat.mod_lt _ (by decide)
  rw [e] at e2
  rw [Jvm.Kit.i32_of_i64 (by omega) (by omega), e2]
theorem own_g6 (r : Int64) (i : Int32) (k : Nat) (hs : (((((8 : Int32) * i) + (7 : Int32)) &&& 0x3f).toInt64.toUInt64).toNat = k) (hk : k < 64) : g6_8_l7 r i = if r.toBitVec.toNat / 2 ^ k % 2 = 0 then 0 else 1 := by
  unfold g6_8_l7
  have e := own_q1 r k _ hs hk
  have e2 : ((((r.toUInt64 >>> ((((8 : Int32) * i) + (7 : Int32)) &&& 0x3f).toInt64.toUInt64).toInt64) &&& (1 : Int64)) = (0 : Int64)) ↔ r.toBitVec.toNat / 2 ^ k % 2 = 0 := by
    rw [← Int64.toBitVec_inj, ← BitVec.toNat_inj, e]; rfl
  by_cases q : r.toBitVec.toNat / 2 ^ k % 2 = 0
  · rw [if_pos (e2.mpr q), if_pos q]
  · rw [if_neg (fun z => q (e2.mp z)), if_neg q]
theorem own_F6 (w r : Int64) (i f : Int32) (k1 : F5 w i = 0 → g6_8_l7 r i = 1) (k2 : i < f → g6_8_l7 r i = 0) (k3 : ¬ g6_8_l7 r i = 0 → ¬ (1 : Int32) < F5 w i) : F6 w r i f = 1 := by
  unfold F6 T6_44 T6_58
  by_cases q1 : F5 w i = 0
  · have e := k1 q1
    have n : ¬ i < f := fun z => by rw [k2 z] at e; exact absurd e (by decide)
    have k := k3 (by rw [e]; decide)
    rw [if_pos q1, e, if_neg (by decide), if_neg n, if_neg (by decide), if_neg k]
  · rw [if_neg q1]
    by_cases q2 : g6_8_l7 r i = 0
    · simp only [q2, if_true, ite_self]
    · have n : ¬ i < f := fun z => q2 (k2 z)
      rw [if_neg n, if_neg q2, if_neg (k3 q2)]
theorem own_r (w : Int64) (k : Nat) (hk : k < 64) (hb : (9259542123273814144#64).getLsbD k = true) : (F3 w F1).toBitVec.toNat / 2 ^ k % 2 = 0 ↔ ¬ (((18374403900871474943 + w.toBitVec.toNat) % 18446744073709551616) / 2 ^ k % 2 = 1 ∧ w.toBitVec.toNat / 2 ^ k % 2 = 0) := by
  have t : ∀ v : BitVec 64, v.toNat / 2 ^ k % 2 = 0 ↔ v.getLsbD k = false := fun v => by
    rw [BitVec.getLsbD, Nat.testBit_eq_decide_div_mod_eq, decide_eq_false_iff_not]
    omega
  have e : (F3 w F1).toBitVec = ((w.toBitVec - 72340172838076673#64) &&& (w.toBitVec ^^^ BitVec.allOnes 64)) &&& 9259542123273814144#64 := by
    unfold F3 F1
    rw [Int64.toBitVec_and, Int64.toBitVec_and, Int64.toBitVec_sub, Int64.toBitVec_xor]
    rw [show ((72340172838076673 : Int64) <<< ((7 : Int32) &&& 0x3f).toInt64).toBitVec = 9259542123273814144#64 from by decide, show (-1 : Int64).toBitVec = BitVec.allOnes 64 from by decide]
    rfl
  rw [t, e, BitVec.getLsbD_and, BitVec.getLsbD_and, hb, BitVec.getLsbD_xor, BitVec.getLsbD_allOnes]
  have s := t (w.toBitVec - 72340172838076673#64)
  rw [BitVec.toNat_sub, show 2 ^ 64 - (72340172838076673#64).toNat = 18374403900871474943 from by decide] at s
  have n := t w.toBitVec
  rw [show (2 : Nat) ^ 64 = 18446744073709551616 from by decide] at s
  simp only [hk, decide_true, Bool.xor_true, Bool.and_true]
  rw [n]
  cases h1 : (w.toBitVec - 72340172838076673#64).getLsbD k <;> cases h2 : w.toBitVec.getLsbD k <;> simp [h1, h2] at s ⊢ <;> omega
theorem own_k0 (n : Nat) (hn : n < 18446744073709551616) : (n / 1 % 256 = 0 → ((18374403900871474943 + n) % 18446744073709551616) / 128 % 2 = 1 ∧ n / 128 % 2 = 0) ∧ ((0 ≤ n % 1 ∧ 1 ≤ n / 1 % 256) → ¬ (((18374403900871474943 + n) % 18446744073709551616) / 128 % 2 = 1 ∧ n / 128 % 2 = 0)) ∧ ((((18374403900871474943 + n) % 18446744073709551616) / 128 % 2 = 1 ∧ n / 128 % 2 = 0) → n / 1 % 256 ≤ 1) := by
  refine ⟨?_, ?_, ?_⟩ <;> omega
theorem own_k1 (n : Nat) (hn : n < 18446744073709551616) : (n / 256 % 256 = 0 → ((18374403900871474943 + n) % 18446744073709551616) / 32768 % 2 = 1 ∧ n / 32768 % 2 = 0) ∧ ((1 ≤ n % 256 ∧ 1 ≤ n / 256 % 256) → ¬ (((18374403900871474943 + n) % 18446744073709551616) / 32768 % 2 = 1 ∧ n / 32768 % 2 = 0)) ∧ ((((18374403900871474943 + n) % 18446744073709551616) / 32768 % 2 = 1 ∧ n / 32768 % 2 = 0) → n / 256 % 256 ≤ 1) := by
  refine ⟨?_, ?_, ?_⟩ <;> omega
theorem own_k2 (n : Nat) (hn : n < 18446744073709551616) : (n / 65536 % 256 = 0 → ((18374403900871474943 + n) % 18446744073709551616) / 8388608 % 2 = 1 ∧ n / 8388608 % 2 = 0) ∧ ((257 ≤ n % 65536 ∧ 1 ≤ n / 65536 % 256) → ¬ (((18374403900871474943 + n) % 18446744073709551616) / 8388608 % 2 = 1 ∧ n / 8388608 % 2 = 0)) ∧ ((((18374403900871474943 + n) % 18446744073709551616) / 8388608 % 2 = 1 ∧ n / 8388608 % 2 = 0) → n / 65536 % 256 ≤ 1) := by
  refine ⟨?_, ?_, ?_⟩ <;> omega
theorem own_k3 (n : Nat) (hn : n < 18446744073709551616) : (n / 16777216 % 256 = 0 → ((18374403900871474943 + n) % 18446744073709551616) / 2147483648 % 2 = 1 ∧ n / 2147483648 % 2 = 0) ∧ ((65793 ≤ n % 16777216 ∧ 1 ≤ n / 16777216 % 256) → ¬ (((18374403900871474943 + n) % 18446744073709551616) / 2147483648 % 2 = 1 ∧ n / 2147483648 % 2 = 0)) ∧ ((((18374403900871474943 + n) % 18446744073709551616) / 2147483648 % 2 = 1 ∧ n / 2147483648 % 2 = 0) → n / 16777216 % 256 ≤ 1) := by
  refine ⟨?_, ?_, ?_⟩ <;> omega
theorem own_k4 (n : Nat) (hn : n < 18446744073709551616) : (n / 4294967296 % 256 = 0 → ((18374403900871474943 + n) % 18446744073709551616) / 549755813888 % 2 = 1 ∧ n / 549755813888 % 2 = 0) ∧ ((16843009 ≤ n % 4294967296 ∧ 1 ≤ n / 4294967296 % 256) → ¬ (((18374403900871474943 + n) % 18446744073709551616) / 549755813888 % 2 = 1 ∧ n / 549755813888 % 2 = 0)) ∧ ((((18374403900871474943 + n) % 18446744073709551616) / 549755813888 % 2 = 1 ∧ n / 549755813888 % 2 = 0) → n / 4294967296 % 256 ≤ 1) := by
  refine ⟨?_, ?_, ?_⟩ <;> omega
theorem own_k5 (n : Nat) (hn : n < 18446744073709551616) : (n / 1099511627776 % 256 = 0 → ((18374403900871474943 + n) % 18446744073709551616) / 140737488355328 % 2 = 1 ∧ n / 140737488355328 % 2 = 0) ∧ ((4311810305 ≤ n % 1099511627776 ∧ 1 ≤ n / 1099511627776 % 256) → ¬ (((18374403900871474943 + n) % 18446744073709551616) / 140737488355328 % 2 = 1 ∧ n / 140737488355328 % 2 = 0)) ∧ ((((18374403900871474943 + n) % 18446744073709551616) / 140737488355328 % 2 = 1 ∧ n / 140737488355328 % 2 = 0) → n / 1099511627776 % 256 ≤ 1) := by
  refine ⟨?_, ?_, ?_⟩ <;> omega
theorem own_k6 (n : Nat) (hn : n < 18446744073709551616) : (n / 281474976710656 % 256 = 0 → ((18374403900871474943 + n) % 18446744073709551616) / 36028797018963968 % 2 = 1 ∧ n / 36028797018963968 % 2 = 0) ∧ ((1103823438081 ≤ n % 281474976710656 ∧ 1 ≤ n / 281474976710656 % 256) → ¬ (((18374403900871474943 + n) % 18446744073709551616) / 36028797018963968 % 2 = 1 ∧ n / 36028797018963968 % 2 = 0)) ∧ ((((18374403900871474943 + n) % 18446744073709551616) / 36028797018963968 % 2 = 1 ∧ n / 36028797018963968 % 2 = 0) → n / 281474976710656 % 256 ≤ 1) := by
  refine ⟨?_, ?_, ?_⟩ <;> omega
theorem own_k7 (n : Nat) (hn : n < 18446744073709551616) : (n / 72057594037927936 % 256 = 0 → ((18374403900871474943 + n) % 18446744073709551616) / 9223372036854775808 % 2 = 1 ∧ n / 9223372036854775808 % 2 = 0) ∧ ((282578800148737 ≤ n % 72057594037927936 ∧ 1 ≤ n / 72057594037927936 % 256) → ¬ (((18374403900871474943 + n) % 18446744073709551616) / 9223372036854775808 % 2 = 1 ∧ n / 9223372036854775808 % 2 = 0)) ∧ ((((18374403900871474943 + n) % 18446744073709551616) / 9223372036854775808 % 2 = 1 ∧ n / 9223372036854775808 % 2 = 0) → n / 72057594037927936 % 256 ≤ 1) := by
  refine ⟨?_, ?_, ?_⟩ <;> omega
theorem own_f0 (w : Int64) (h : (0 : Int32) < F4 w) : ¬ F5 w (0 : Int32) = 0 := by
  unfold F4 at h
  repeat' split at h
  all_goals first | exact absurd h (by decide) | exact ⟨by assumption⟩ | assumption
theorem own_o0 (w : Int64) : F6 w (F3 w F1) (0 : Int32) (F4 w) = 1 := by
  have hn := w.toBitVec.isLt
  have k := own_k0 w.toBitVec.toNat (by omega)
  have z0 : (0 : Int32).toInt = 0 := by decide
  have z1 : (1 : Int32).toInt = 1 := by decide
  have b0 := own_F5 w (0 : Int32) 0 (by decide) (by decide)
  have g := own_g6 (F3 w F1) (0 : Int32) 7 (by decide) (by decide)
  have r := own_r w 7 (by decide) (by decide)
  have f : (0 : Int32) < F4 w → 0 ≤ w.toBitVec.toNat % 1 ∧ 1 ≤ w.toBitVec.toNat / 1 % 256 := fun q => by
    have q := own_f0 w q
    simp only [← Int32.toInt_inj, z0, b0] at q
    omega
  refine own_F6 w _ _ _ (fun q => ?_) (fun q => ?_) (fun q => ?_)
  · rw [← Int32.toInt_inj, b0, z0] at q
    rw [g, if_neg (fun z => (r.mp z) (k.1 (by omega)))]
  · rw [g, if_pos (r.mpr (k.2.1 (f q)))]
  · rw [g] at q
    have m : ¬ (F3 w F1).toBitVec.toNat / 2 ^ 7 % 2 = 0 := fun z => q (by rw [if_pos z])
    have m2 := k.2.2 (Decidable.not_not.mp (fun z => m (r.mpr z)))
    rw [Int32.lt_iff_toInt_lt, b0, z1]
    omega
theorem own_f1 (w : Int64) (h : (1 : Int32) < F4 w) : ¬ F5 w (0 : Int32) = 0 ∧ ¬ F5 w (1 : Int32) = 0 := by
  unfold F4 at h
  repeat' split at h
  all_goals first | exact absurd h (by decide) | exact ⟨by assumption, by assumption⟩ | assumption
theorem own_o1 (w : Int64) : F6 w (F3 w F1) (1 : Int32) (F4 w) = 1 := by
  have hn := w.toBitVec.isLt
  have k := own_k1 w.toBitVec.toNat (by omega)
  have z0 : (0 : Int32).toInt = 0 := by decide
  have z1 : (1 : Int32).toInt = 1 := by decide
  have b0 := own_F5 w (0 : Int32) 0 (by decide) (by decide)
  have b1 := own_F5 w (1 : Int32) 8 (by decide) (by decide)
  have g := own_g6 (F3 w F1) (1 : Int32) 15 (by decide) (by decide)
  have r := own_r w 15 (by decide) (by decide)
  have f : (1 : Int32) < F4 w → 1 ≤ w.toBitVec.toNat % 256 ∧ 1 ≤ w.toBitVec.toNat / 256 % 256 := fun q => by
    have q := own_f1 w q
    simp only [← Int32.toInt_inj, z0, b0, b1] at q
    omega
  refine own_F6 w _ _ _ (fun q => ?_) (fun q => ?_) (fun q => ?_)
  · rw [← Int32.toInt_inj, b1, z0] at q
    rw [g, if_neg (fun z => (r.mp z) (k.1 (by omega)))]
  · rw [g, if_pos (r.mpr (k.2.1 (f q)))]
  · rw [g] at q
    have m : ¬ (F3 w F1).toBitVec.toNat / 2 ^ 15 % 2 = 0 := fun z => q (by rw [if_pos z])
    have m2 := k.2.2 (Decidable.not_not.mp (fun z => m (r.mpr z)))
    rw [Int32.lt_iff_toInt_lt, b1, z1]
    omega
theorem own_f2 (w : Int64) (h : (2 : Int32) < F4 w) : ¬ F5 w (0 : Int32) = 0 ∧ ¬ F5 w (1 : Int32) = 0 ∧ ¬ F5 w (2 : Int32) = 0 := by
  unfold F4 at h
  repeat' split at h
  all_goals first | exact absurd h (by decide) | exact ⟨by assumption, by assumption, by assumption⟩ | assumption
theorem own_o2 (w : Int64) : F6 w (F3 w F1) (2 : Int32) (F4 w) = 1 := by
  have hn := w.toBitVec.isLt
  have k := own_k2 w.toBitVec.toNat (by omega)
  have z0 : (0 : Int32).toInt = 0 := by decide
  have z1 : (1 : Int32).toInt = 1 := by decide
  have b0 := own_F5 w (0 : Int32) 0 (by decide) (by decide)
  have b1 := own_F5 w (1 : Int32) 8 (by decide) (by decide)
  have b2 := own_F5 w (2 : Int32) 16 (by decide) (by decide)
  have g := own_g6 (F3 w F1) (2 : Int32) 23 (by decide) (by decide)
  have r := own_r w 23 (by decide) (by decide)
  have f : (2 : Int32) < F4 w → 257 ≤ w.toBitVec.toNat % 65536 ∧ 1 ≤ w.toBitVec.toNat / 65536 % 256 := fun q => by
    have q := own_f2 w q
    simp only [← Int32.toInt_inj, z0, b0, b1, b2] at q
    omega
  refine own_F6 w _ _ _ (fun q => ?_) (fun q => ?_) (fun q => ?_)
  · rw [← Int32.toInt_inj, b2, z0] at q
    rw [g, if_neg (fun z => (r.mp z) (k.1 (by omega)))]
  · rw [g, if_pos (r.mpr (k.2.1 (f q)))]
  · rw [g] at q
    have m : ¬ (F3 w F1).toBitVec.toNat / 2 ^ 23 % 2 = 0 := fun z => q (by rw [if_pos z])
    have m2 := k.2.2 (Decidable.not_not.mp (fun z => m (r.mpr z)))
    rw [Int32.lt_iff_toInt_lt, b2, z1]
    omega
theorem own_f3 (w : Int64) (h : (3 : Int32) < F4 w) : ¬ F5 w (0 : Int32) = 0 ∧ ¬ F5 w (1 : Int32) = 0 ∧ ¬ F5 w (2 : Int32) = 0 ∧ ¬ F5 w (3 : Int32) = 0 := by
  unfold F4 at h
  repeat' split at h
  all_goals first | exact absurd h (by decide) | exact ⟨by assumption, by assumption, by assumption, by assumption⟩ | assumption
theorem own_o3 (w : Int64) : F6 w (F3 w F1) (3 : Int32) (F4 w) = 1 := by
  have hn := w.toBitVec.isLt
  have k := own_k3 w.toBitVec.toNat (by omega)
  have z0 : (0 : Int32).toInt = 0 := by decide
  have z1 : (1 : Int32).toInt = 1 := by decide
  have b0 := own_F5 w (0 : Int32) 0 (by decide) (by decide)
  have b1 := own_F5 w (1 : Int32) 8 (by decide) (by decide)
  have b2 := own_F5 w (2 : Int32) 16 (by decide) (by decide)
  have b3 := own_F5 w (3 : Int32) 24 (by decide) (by decide)
  have g := own_g6 (F3 w F1) (3 : Int32) 31 (by decide) (by decide)
  have r := own_r w 31 (by decide) (by decide)
  have f : (3 : Int32) < F4 w → 65793 ≤ w.toBitVec.toNat % 16777216 ∧ 1 ≤ w.toBitVec.toNat / 16777216 % 256 := fun q => by
    have q := own_f3 w q
    simp only [← Int32.toInt_inj, z0, b0, b1, b2, b3] at q
    omega
  refine own_F6 w _ _ _ (fun q => ?_) (fun q => ?_) (fun q => ?_)
  · rw [← Int32.toInt_inj, b3, z0] at q
    rw [g, if_neg (fun z => (r.mp z) (k.1 (by omega)))]
  · rw [g, if_pos (r.mpr (k.2.1 (f q)))]
  · rw [g] at q
    have m : ¬ (F3 w F1).toBitVec.toNat / 2 ^ 31 % 2 = 0 := fun z => q (by rw [if_pos z])
    have m2 := k.2.2 (Decidable.not_not.mp (fun z => m (r.mpr z)))
    rw [Int32.lt_iff_toInt_lt, b3, z1]
    omega
theorem own_f4 (w : Int64) (h : (4 : Int32) < F4 w) : ¬ F5 w (0 : Int32) = 0 ∧ ¬ F5 w (1 : Int32) = 0 ∧ ¬ F5 w (2 : Int32) = 0 ∧ ¬ F5 w (3 : Int32) = 0 ∧ ¬ F5 w (4 : Int32) = 0 := by
  unfold F4 at h
  repeat' split at h
  all_goals first | exact absurd h (by decide) | exact ⟨by assumption, by assumption, by assumption, by assumption, by assumption⟩ | assumption
theorem own_o4 (w : Int64) : F6 w (F3 w F1) (4 : Int32) (F4 w) = 1 := by
  have hn := w.toBitVec.isLt
  have k := own_k4 w.toBitVec.toNat (by omega)
  have z0 : (0 : Int32).toInt = 0 := by decide
  have z1 : (1 : Int32).toInt = 1 := by decide
  have b0 := own_F5 w (0 : Int32) 0 (by decide) (by decide)
  have b1 := own_F5 w (1 : Int32) 8 (by decide) (by decide)
  have b2 := own_F5 w (2 : Int32) 16 (by decide) (by decide)
  have b3 := own_F5 w (3 : Int32) 24 (by decide) (by decide)
  have b4 := own_F5 w (4 : Int32) 32 (by decide) (by decide)
  have g := own_g6 (F3 w F1) (4 : Int32) 39 (by decide) (by decide)
  have r := own_r w 39 (by decide) (by decide)
  have f : (4 : Int32) < F4 w → 16843009 ≤ w.toBitVec.toNat % 4294967296 ∧ 1 ≤ w.toBitVec.toNat / 4294967296 % 256 := fun q => by
    have q := own_f4 w q
    simp only [← Int32.toInt_inj, z0, b0, b1, b2, b3, b4] at q
    omega
  refine own_F6 w _ _ _ (fun q => ?_) (fun q => ?_) (fun q => ?_)
  · rw [← Int32.toInt_inj, b4, z0] at q
    rw [g, if_neg (fun z => (r.mp z) (k.1 (by omega)))]
  · rw [g, if_pos (r.mpr (k.2.1 (f q)))]
  · rw [g] at q
    have m : ¬ (F3 w F1).toBitVec.toNat / 2 ^ 39 % 2 = 0 := fun z => q (by rw [if_pos z])
    have m2 := k.2.2 (Decidable.not_not.mp (fun z => m (r.mpr z)))
    rw [Int32.lt_iff_toInt_lt, b4, z1]
    omega
theorem own_f5 (w : Int64) (h : (5 : Int32) < F4 w) : ¬ F5 w (0 : Int32) = 0 ∧ ¬ F5 w (1 : Int32) = 0 ∧ ¬ F5 w (2 : Int32) = 0 ∧ ¬ F5 w (3 : Int32) = 0 ∧ ¬ F5 w (4 : Int32) = 0 ∧ ¬ F5 w (5 : Int32) = 0 := by
  unfold F4 at h
  repeat' split at h
  all_goals first | exact absurd h (by decide) | exact ⟨by assumption, by assumption, by assumption, by assumption, by assumption, by assumption⟩ | assumption
theorem own_o5 (w : Int64) : F6 w (F3 w F1) (5 : Int32) (F4 w) = 1 := by
  have hn := w.toBitVec.isLt
  have k := own_k5 w.toBitVec.toNat (by omega)
  have z0 : (0 : Int32).toInt = 0 := by decide
  have z1 : (1 : Int32).toInt = 1 := by decide
  have b0 := own_F5 w (0 : Int32) 0 (by decide) (by decide)
  have b1 := own_F5 w (1 : Int32) 8 (by decide) (by decide)
  have b2 := own_F5 w (2 : Int32) 16 (by decide) (by decide)
  have b3 := own_F5 w (3 : Int32) 24 (by decide) (by decide)
  have b4 := own_F5 w (4 : Int32) 32 (by decide) (by decide)
  have b5 := own_F5 w (5 : Int32) 40 (by decide) (by decide)
  have g := own_g6 (F3 w F1) (5 : Int32) 47 (by decide) (by decide)
  have r := own_r w 47 (by decide) (by decide)
  have f : (5 : Int32) < F4 w → 4311810305 ≤ w.toBitVec.toNat % 1099511627776 ∧ 1 ≤ w.toBitVec.toNat / 1099511627776 % 256 := fun q => by
    have q := own_f5 w q
    simp only [← Int32.toInt_inj, z0, b0, b1, b2, b3, b4, b5] at q
    omega
  refine own_F6 w _ _ _ (fun q => ?_) (fun q => ?_) (fun q => ?_)
  · rw [← Int32.toInt_inj, b5, z0] at q
    rw [g, if_neg (fun z => (r.mp z) (k.1 (by omega)))]
  · rw [g, if_pos (r.mpr (k.2.1 (f q)))]
  · rw [g] at q
    have m : ¬ (F3 w F1).toBitVec.toNat / 2 ^ 47 % 2 = 0 := fun z => q (by rw [if_pos z])
    have m2 := k.2.2 (Decidable.not_not.mp (fun z => m (r.mpr z)))
    rw [Int32.lt_iff_toInt_lt, b5, z1]
    omega
theorem own_f6 (w : Int64) (h : (6 : Int32) < F4 w) : ¬ F5 w (0 : Int32) = 0 ∧ ¬ F5 w (1 : Int32) = 0 ∧ ¬ F5 w (2 : Int32) = 0 ∧ ¬ F5 w (3 : Int32) = 0 ∧ ¬ F5 w (4 : Int32) = 0 ∧ ¬ F5 w (5 : Int32) = 0 ∧ ¬ F5 w (6 : Int32) = 0 := by
  unfold F4 at h
  repeat' split at h
  all_goals first | exact absurd h (by decide) | exact ⟨by assumption, by assumption, by assumption, by assumption, by assumption, by assumption, by assumption⟩ | assumption
theorem own_o6 (w : Int64) : F6 w (F3 w F1) (6 : Int32) (F4 w) = 1 := by
  have hn := w.toBitVec.isLt
  have k := own_k6 w.toBitVec.toNat (by omega)
  have z0 : (0 : Int32).toInt = 0 := by decide
  have z1 : (1 : Int32).toInt = 1 := by decide
  have b0 := own_F5 w (0 : Int32) 0 (by decide) (by decide)
  have b1 := own_F5 w (1 : Int32) 8 (by decide) (by decide)
  have b2 := own_F5 w (2 : Int32) 16 (by decide) (by decide)
  have b3 := own_F5 w (3 : Int32) 24 (by decide) (by decide)
  have b4 := own_F5 w (4 : Int32) 32 (by decide) (by decide)
  have b5 := own_F5 w (5 : Int32) 40 (by decide) (by decide)
  have b6 := own_F5 w (6 : Int32) 48 (by decide) (by decide)
  have g := own_g6 (F3 w F1) (6 : Int32) 55 (by decide) (by decide)
  have r := own_r w 55 (by decide) (by decide)
  have f : (6 : Int32) < F4 w → 1103823438081 ≤ w.toBitVec.toNat % 281474976710656 ∧ 1 ≤ w.toBitVec.toNat / 281474976710656 % 256 := fun q => by
    have q := own_f6 w q
    simp only [← Int32.toInt_inj, z0, b0, b1, b2, b3, b4, b5, b6] at q
    omega
  refine own_F6 w _ _ _ (fun q => ?_) (fun q => ?_) (fun q => ?_)
  · rw [← Int32.toInt_inj, b6, z0] at q
    rw [g, if_neg (fun z => (r.mp z) (k.1 (by omega)))]
  · rw [g, if_pos (r.mpr (k.2.1 (f q)))]
  · rw [g] at q
    have m : ¬ (F3 w F1).toBitVec.toNat / 2 ^ 55 % 2 = 0 := fun z => q (by rw [if_pos z])
    have m2 := k.2.2 (Decidable.not_not.mp (fun z => m (r.mpr z)))
    rw [Int32.lt_iff_toInt_lt, b6, z1]
    omega
theorem own_f7 (w : Int64) (h : (7 : Int32) < F4 w) : ¬ F5 w (0 : Int32) = 0 ∧ ¬ F5 w (1 : Int32) = 0 ∧ ¬ F5 w (2 : Int32) = 0 ∧ ¬ F5 w (3 : Int32) = 0 ∧ ¬ F5 w (4 : Int32) = 0 ∧ ¬ F5 w (5 : Int32) = 0 ∧ ¬ F5 w (6 : Int32) = 0 ∧ ¬ F5 w (7 : Int32) = 0 := by
  unfold F4 at h
  repeat' split at h
  all_goals first | exact absurd h (by decide) | exact ⟨by assumption, by assumption, by assumption, by assumption, by assumption, by assumption, by assumption, by assumption⟩ | assumption
theorem own_o7 (w : Int64) : F6 w (F3 w F1) (7 : Int32) (F4 w) = 1 := by
  have hn := w.toBitVec.isLt
  have k := own_k7 w.toBitVec.toNat (by omega)
  have z0 : (0 : Int32).toInt = 0 := by decide
  have z1 : (1 : Int32).toInt = 1 := by decide
  have b0 := own_F5 w (0 : Int32) 0 (by decide) (by decide)
  have b1 := own_F5 w (1 : Int32) 8 (by decide) (by decide)
  have b2 := own_F5 w (2 : Int32) 16 (by decide) (by decide)
  have b3 := own_F5 w (3 : Int32) 24 (by decide) (by decide)
  have b4 := own_F5 w (4 : Int32) 32 (by decide) (by decide)
  have b5 := own_F5 w (5 : Int32) 40 (by decide) (by decide)
  have b6 := own_F5 w (6 : Int32) 48 (by decide) (by decide)
  have b7 := own_F5 w (7 : Int32) 56 (by decide) (by decide)
  have g := own_g6 (F3 w F1) (7 : Int32) 63 (by decide) (by decide)
  have r := own_r w 63 (by decide) (by decide)
  have f : (7 : Int32) < F4 w → 282578800148737 ≤ w.toBitVec.toNat % 72057594037927936 ∧ 1 ≤ w.toBitVec.toNat / 72057594037927936 % 256 := fun q => by
    have q := own_f7 w q
    simp only [← Int32.toInt_inj, z0, b0, b1, b2, b3, b4, b5, b6, b7] at q
    omega
  refine own_F6 w _ _ _ (fun q => ?_) (fun q => ?_) (fun q => ?_)
  · rw [← Int32.toInt_inj, b7, z0] at q
    rw [g, if_neg (fun z => (r.mp z) (k.1 (by omega)))]
  · rw [g, if_pos (r.mpr (k.2.1 (f q)))]
  · rw [g] at q
    have m : ¬ (F3 w F1).toBitVec.toNat / 2 ^ 63 % 2 = 0 := fun z => q (by rw [if_pos z])
    have m2 := k.2.2 (Decidable.not_not.mp (fun z => m (r.mpr z)))
    rw [Int32.lt_iff_toInt_lt, b7, z1]
    omega
theorem own_low (w : Int64) : (F3 w F1) &&& (9187201950435737471 : Int64) = 0 := by
  unfold F3 F1
  rw [Int64.and_assoc, show ((72340172838076673 : Int64) <<< ((7 : Int32) &&& 0x3f).toInt64) &&& (9187201950435737471 : Int64) = 0 from by decide, Int64.and_zero]
theorem own_tail (w : Int64) : T0_66 w (F3 w F1) = 1 := by
  unfold T0_66
  rw [if_pos (own_low w), own_o0, own_o1, own_o2, own_o3, own_o4, own_o5, own_o6, own_o7]
  decide
theorem own_law (x0 : Int64) (x1 : Int32) : F0 x0 x1 = 1 := by
  unfold F0
  exact own_tail _
theorem own_result (x0 : Int64) (x1 : Int32) {v : Option Value} {h h0 : Heap} (hv : v = some (.int (F0 x0 x1)) ∧ h = h0) : v = some (.int 1) := by rw [hv.1, own_law x0 x1]
set_option maxRecDepth 65536 in
set_option maxHeartbeats 40000000 in
theorem comes_1 {Post : Tables → Env → Array Value → State → Outcome → State → Prop} (hpost : ∀ tb e args s v u, (limb_1_1.after args s (.returned v) u = true ∧ limb_1_2.after args s (.returned v) u = true ∧ True) → FrameEnd s (.returned v) u (Jvm.fieldLocs frame_1_writes args s ++ Jvm.arrayLocs frame_1_arrays args s ++ Jvm.staticLocs frame_1_statics s) 0 0 → Post tb e args s (.returned v) u) :
    ArmFor flags0 classFile x code maxLocals ret World_1 tables_1 room_1 Calls_1 rest_1 Pre_1 Post := by
  intro l hfl _ _ p e ha hc hk s m args below hf hA hF happ hP
  obtain ⟨hcalls, hrest, hpre⟩ := hP
  obtain ⟨-, -, -, hnamed, -, -, -, hat⟩ := (Spec.applies_iff hf).mp happ
  obtain ⟨hg, hn⟩ := and_e (Cond.before_iff.mp (show (Jvm.Cond.and given_1 narrow_1).before args s = true from hpre))
  obtain ⟨g1, g2⟩ := and_e hg
  obtain ⟨g3, g4⟩ := and_e g2
  obtain ⟨w0, w1, rfl⟩ : ∃ w0 w1 : Value, args = #[w0, w1] := by
    have hs : args.size = 2 := by simpa [Cond.value, given_1] using g1
    obtain ⟨L⟩ := args
    match L, hs with
    | [w0, w1], _ => exact ⟨w0, w1, rfl⟩
  have hw := fun d (hd : d ∈ tables_1) => atoms_spec (ws := Jvm.Cond.code x code maxLocals ret :: tables_1) hat d (List.mem_cons_of_mem _ hd)
  obtain ⟨i0, ei0⟩ := isL_v g3
  obtain rfl : w0 = (.long i0) := Option.some.inj ei0
  obtain ⟨i1, ei1⟩ := is_v g4
  obtain rfl : w1 = (.int i1) := Option.some.inj ei1
  obtain ⟨n, o, h1, h2, h3, v, L, rfl, ⟨hv, N⟩, hq⟩ := met_0 l s _ hw s.heap s.heap.size (Nat.le_refl _) i0 i1 tables_1 p e ha hc hk s m _ below hf ((Spec.applies_iff_loose hf).mp happ).1 ⟨rfl, State.Warmed39.refl s, rfl⟩ trivial
  obtain rfl : v = some (.int 1) := own_result i0 i1 hv
  refine ⟨n, _, h1, h2, h3, hpost _ _ _ _ _ _ ⟨Cond.after_iff.mpr rfl, Cond.after_iff.mpr (eq_i res_at (Term.int_eval (1)) rfl), trivial⟩ ⟨hq.1, hq.2.1, (hq.2.2.sift fun y hy => Or.inr (N y hy)).mono (by decide) (by decide)⟩⟩
theorem main_1_1 : Claimed_1_1 := comes_1 fun _ _ _ _ _ _ h hF => ⟨h.1, hF⟩
theorem main_1_2 : Claimed_1_2 := comes_1 fun _ _ _ _ _ _ h hF => ⟨h.2.1, hF⟩
end Jvm.Pilot.@@N@@
namespace Jvm.Pilot.@@N@@
open Jvm Jvm.ClassFile Sem Op Lib Jvm.Free Jvm.Stand Jvm.Pilot.@@N@@.Jvm.D
/-! MADE BY PROGRAM (witnessworld.py) out of the Statement's table words and the real class files: 9 classes; the members and pool entries that the words name. The judged class is class 1, her method 1. -/
namespace start1
open Jvm.ClassFile
def u (s : String) : CpInfo := .utf8 (stringToUtf16 s)
/-- a pool by its gaps: so many unusable entries, then the entry; so many at the end -/
def gap : Nat → List CpInfo → List CpInfo
  | 0, r => r
  | n + 1, r => .unusable :: gap n r
def poolList (es : List (Nat × CpInfo)) (last : Nat) : List CpInfo := es.foldr (fun e r => gap e.1 (e.2 :: r)) (gap last [])
def pool (es : List (Nat × CpInfo)) (last : Nat) : Array CpInfo := ⟨poolList es last⟩
def fileOf (pool : Array CpInfo) (this : Nat) (attrs : Array Attribute := #[]) (ms : Array MethodInfo := #[]) (fl : Nat := 33) (sup : Nat := 0) (ifs : Array Nat := #[]) (fds : Array FieldInfo := #[]) : ClassFile where
  minorVersion := 0
  majorVersion := 65
  constantPool := pool
  accessFlags := fl
  thisClass := this
  superClass := sup
  interfaces := ifs
  fields := fds
  methods := ms
  attributes := attrs
def plain (name : String) (sup : Option ClassId) : Class where
  name := name
  kind := .ordinary
  loader := none
  accessFlags := 33
  super := sup
  interfaces := #[]
  cf := none
  fields := #[]
  methods := #[]
  instanceTypes := #[]
  staticTypes := #[]
  resolved := #[]
  callSites := []
  init := .initialized
  statics := none
  mirror := none

def pool0 : Array CpInfo := pool [(5, u "<init>"), (0, u "()V"), (1, .class_ 10), (1, u "java/lang/Object")] 113

def k0m0 : Method := { name := "<init>", desc := "()V", sig := { parameters := [], returnType := none }, accessFlags := 1, code := none }
/-- java/lang/Object -/
def k0 : Class := { plain "java/lang/Object" none with
  accessFlags := 33
  interfaces := #[]
  cf := some (fileOf pool0 8 #[] #[{ accessFlags := 1, nameIndex := 5, descriptorIndex := 6, attributes := #[] }] 33 0 #[] #[])
  fields := #[]
  methods := #[k0m0]
  instanceTypes := #[]
  staticTypes := #[]
  resolved := Array.replicate 124 none
  statics := none }

def pool1 : Array CpInfo := pool [(2, .class_ 4), (1, u "java/lang/Object"), (0, u "<init>"), (0, u "()V"), (0, .methodref 8 9), (0, .class_ 10), (0, .nameAndType 11 12), (0, u "com/example/sourcebill/sourcebill/scan/Words"), (0, u "ones"), (0, u "()J"), (0, .methodref 14 15), (0, .class_ 16), (0, .nameAndType 17 18), (0, u "com/example/sourcebill/sourcebill/scan/WordsZeroOrAbovePinLaw"), (0, u "spread"), (0, u "(I)J"), (0, .long 18446744073709551615), (1, .long 72340172838076673), (1, .methodref 8 24), (0, .nameAndType 25 26), (0, u "zeroOrAbove"), (0, u "(JJ)J"), (0, .long 9187201950435737471), (1, .methodref 14 30), (0, .nameAndType 31 32), (0, u "firstZero"), (0, u "(J)I"), (0, .methodref 14 34), (0, .nameAndType 35 36), (0, u "ok"), (0, u "(JJII)Z"), (0, .long 255), (1, .long 65280), (1, .long 16711680), (1, .long 4278190080), (1, .long 1095216660480), (1, .long 280375465082880), (1, .long 71776119061217280), (1, .long 18374686479671623680), (1, .methodref 14 54), (0, .nameAndType 55 56), (0, u "byteAt"), (0, u "(JI)I"), (2, u "law"), (0, u "(JI)Z")] 3

def k1m0 : Method := { name := "<init>", desc := "()V", sig := { parameters := [], returnType := none }, accessFlags := 2, code := none }
def k1c1 : Code := { maxStack := 6, maxLocals := 14, code := code, exceptionTable := #[], attributes := #[] }
def k1m1 : Method := { name := "law", desc := "(JI)Z", sig := { parameters := [.long, .int], returnType := some .boolean }, accessFlags := 9, code := some k1c1 }
def k1c2 : Code := { maxStack := 4, maxLocals := 3, code := method_3_code, exceptionTable := #[], attributes := #[] }
def k1m2 : Method := { name := "spread", desc := "(I)J", sig := { parameters := [.int], returnType := some .long }, accessFlags := 10, code := some k1c2 }
def k1c3 : Code := { maxStack := 4, maxLocals := 3, code := method_4_code, exceptionTable := #[], attributes := #[] }
def k1m3 : Method := { name := "byteAt", desc := "(JI)I", sig := { parameters := [.long, .int], returnType := some .int }, accessFlags := 10, code := some k1c3 }
def k1c4 : Code := { maxStack := 3, maxLocals := 2, code := method_5_code, exceptionTable := #[], attributes := #[] }
def k1m4 : Method := { name := "firstZero", desc := "(J)I", sig := { parameters := [.long], returnType := some .int }, accessFlags := 10, code := some k1c4 }
def k1c5 : Code := { maxStack := 4, maxLocals := 8, code := method_6_code, exceptionTable := #[], attributes := #[] }
def k1m5 : Method := { name := "ok", desc := "(JJII)Z", sig := { parameters := [.long, .long, .int, .int], returnType := some .boolean }, accessFlags := 10, code := some k1c5 }
/-- com/example/sourcebill/sourcebill/scan/WordsZeroOrAbovePinLaw -/
def k1 : Class := { plain "com/example/sourcebill/sourcebill/scan/WordsZeroOrAbovePinLaw" (some 0) with
  accessFlags := 49
  interfaces := #[]
  cf := some (fileOf pool1 14 #[] #[{ accessFlags := 2, nameIndex := 5, descriptorIndex := 6, attributes := #[] }, { accessFlags := 9, nameIndex := 59, descriptorIndex := 60, attributes := #[] }, { accessFlags := 10, nameIndex := 17, descriptorIndex := 18, attributes := #[] }, { accessFlags := 10, nameIndex := 55, descriptorIndex := 56, attributes := #[] }, { accessFlags := 10, nameIndex := 31, descriptorIndex := 32, attributes := #[] }, { accessFlags := 10, nameIndex := 35, descriptorIndex := 36, attributes := #[] }] 49 2 #[] #[])
  fields := #[]
  methods := #[k1m0, k1m1, k1m2, k1m3, k1m4, k1m5]
  instanceTypes := #[]
  staticTypes := #[]
  resolved := Array.replicate 64 none
  statics := none }

def pool2 : Array CpInfo := pool [(2, .class_ 4), (1, u "java/lang/Object"), (0, u "<init>"), (0, u "()V"), (0, .class_ 8), (0, u "com/example/sourcebill/sourcebill/scan/Words"), (0, .long 72340172838076673), (3, u "LONGS"), (0, u "Ljava/lang/invoke/VarHandle;"), (6, .long 18446744073709551615), (23, u "ONES"), (0, u "J"), (3, u "ones"), (0, u "()J"), (3, u "zeroOrAbove"), (0, u "(JJ)J")] 5

def k2m0 : Method := { name := "<init>", desc := "()V", sig := { parameters := [], returnType := none }, accessFlags := 2, code := none }
def k2c1 : Code := { maxStack := 2, maxLocals := 0, code := prog_96_method_2_code, exceptionTable := #[], attributes := #[] }
def k2m1 : Method := { name := "ones", desc := "()J", sig := { parameters := [], returnType := some .long }, accessFlags := 8, code := some k2c1 }
def k2c2 : Code := { maxStack := 6, maxLocals := 4, code := prog_96_method_5_code, exceptionTable := #[], attributes := #[] }
def k2m2 : Method := { name := "zeroOrAbove", desc := "(JJ)J", sig := { parameters := [.long, .long], returnType := some .long }, accessFlags := 8, code := some k2c2 }
/-- com/example/sourcebill/sourcebill/scan/Words -/
def k2 : Class := { plain "com/example/sourcebill/sourcebill/scan/Words" (some 0) with
  accessFlags := 48
  interfaces := #[]
  cf := some (fileOf pool2 7 #[] #[{ accessFlags := 2, nameIndex := 5, descriptorIndex := 6, attributes := #[] }, { accessFlags := 8, nameIndex := 50, descriptorIndex := 51, attributes := #[] }, { accessFlags := 8, nameIndex := 55, descriptorIndex := 56, attributes := #[] }] 48 2 #[] #[{ accessFlags := 26, nameIndex := 45, descriptorIndex := 46, attributes := #[] }, { accessFlags := 26, nameIndex := 13, descriptorIndex := 14, attributes := #[] }])
  fields := #[{ name := "ONES", type := .long, accessFlags := 26, slot := 0, constantValue := 0 }, { name := "LONGS", type := (.object "java/lang/invoke/VarHandle"), accessFlags := 26, slot := 1, constantValue := 0 }]
  methods := #[k2m0, k2m1, k2m2]
  instanceTypes := #[]
  staticTypes := #[.long, (.object "java/lang/invoke/VarHandle")]
  resolved := Array.replicate 62 none
  statics := none }

def pool3 : Array CpInfo := pool [(1, u "java/lang/Cloneable"), (0, .class_ 1), (0, u "java/lang/Object"), (0, .class_ 3)] 3

/-- java/lang/Cloneable -/
def k3 : Class := { plain "java/lang/Cloneable" (some 0) with
  accessFlags := 1537
  interfaces := #[]
  cf := some (fileOf pool3 2 #[] #[] 1537 4 #[] #[])
  fields := #[]
  methods := #[]
  instanceTypes := #[]
  staticTypes := #[]
  resolved := Array.replicate 8 none
  statics := none }

def pool4 : Array CpInfo := pool [(1, u "java/io/Serializable"), (0, .class_ 1), (0, u "java/lang/Object"), (0, .class_ 3)] 3

/-- java/io/Serializable -/
def k4 : Class := { plain "java/io/Serializable" (some 0) with
  accessFlags := 1537
  interfaces := #[]
  cf := some (fileOf pool4 2 #[] #[] 1537 4 #[] #[])
  fields := #[]
  methods := #[]
  instanceTypes := #[]
  staticTypes := #[]
  resolved := Array.replicate 8 none
  statics := none }

/-- the primitive byte -/
def k5 : Class := { plain "byte" none with kind := .primitive 'B', accessFlags := 0x411 }
/-- [B -/
def k6 : Class := { plain "[B" (some 0) with kind := .array 5 .byte, interfaces := #[3, 4], accessFlags := 1041 }

/-- the primitive int -/
def k7 : Class := { plain "int" none with kind := .primitive 'I', accessFlags := 0x411 }
/-- [I -/
def k8 : Class := { plain "[I" (some 0) with kind := .array 7 .int, interfaces := #[3, 4], accessFlags := 1041 }

def heap : Heap := #[]
def classes : Array Class := #[k0, k1, k2, k3, k4, k5, k6, k7, k8]
def interned : List (Array UInt16 × Addr) := []
def slotsUsed : Nat := 0
def theMethod : MethodId := ⟨1, 1⟩
def args0 : Array Value := #[.long 5, .int 7]
def aboutOver (below : List Frame) : State where
  vm := { classes := classes, interned := interned.toArray }
  heap := heap
  slotsUsed := slotsUsed
  threads := #[{ frames := .invoking theMethod args0 :: below }]
def below0 : List Frame := [.native { method := ⟨0, 0⟩, args := #[] }]
def about1 : State := aboutOver below0
def p0 : Program := .bare "" "" ""
def e0 : Env := launch0.env 0 0 0
theorem w_frames : about1.frames = Frame.invoking theMethod args0 :: below0 := rfl
set_option maxRecDepth 65536 in
theorem w_args : argsFit about1.vm theMethod args0 = true := by decide +kernel
set_option maxRecDepth 65536 in
theorem w_heap : heapFits about1 = true := by decide +kernel
set_option maxRecDepth 65536 in
theorem w_runnable : about1.curStatus? = some .runnable := by decide +kernel
set_option maxRecDepth 65536 in
theorem w_alone : about1.alone = true := by decide +kernel
set_option maxRecDepth 65536 in
theorem w_named : about1.methodNamed? x = some theMethod := by decide +kernel
set_option maxRecDepth 65536 in
theorem w_hears : about1.hears theMethod below0 = true := by decide +kernel
set_option maxRecDepth 65536 in
theorem w_ripe : about1.ripe theMethod args0 below0 = true := by decide +kernel
theorem w_running : about1.status = .running := rfl
set_option maxRecDepth 65536 in
theorem w_room : about1.hasRoom e0.platform room_1 = true :=
  launch0.hasRoom_least _ room_1 (by decide +kernel) (by decide +kernel) (by decide +kernel) (by decide +kernel) (by decide +kernel) (by decide +kernel)
theorem allAtoms_all (ts : List Jvm.Cond) (a : Array Jvm.Value) (st : Jvm.State) : (allAtoms ts).before a st = ts.all (fun c => c.before a st) := by
  induction ts with
  | nil => rfl
  | cons c t ih =>
    show (Jvm.Cond.and c (allAtoms t)).before a st = _
    rw [Jvm.Cond.before_and, ih, List.all_cons]
def words1 : List Jvm.Cond := Jvm.Cond.code x code maxLocals ret :: tables_1
/-- a 'code' word, met by the world's own term for the bytes: nothing is compared byte by byte -/
theorem code_word {y : MethodName} {bytes : ByteArray} {mx : Nat} {rt : Option FieldType} {a : Array Value} {s : State} {m : MethodId} {meth : Method} {c : Code} (h1 : s.methodNamed? y = some m) (h2 : s.vm.method? m = some meth) (h3 : meth.code = some c) (h4 : c.code = bytes)
    (h5 : (c.maxLocals == mx && c.exceptionTable.isEmpty && decide (c.maxStack ≤ mostOperands) && decide (meth.sig.returnType = rt) && !meth.locks && decide (parseMethodDescriptor y.desc = some meth.sig)) = true) : (Jvm.Cond.code y bytes mx rt).before a s = true := by
  simp only [Bool.and_eq_true, beq_iff_eq, Bool.not_eq_true', decide_eq_true_eq] at h5
  obtain ⟨⟨⟨⟨⟨g1, g2⟩, g3⟩, g4⟩, g5⟩, g6⟩ := h5
  simp [Cond.before, Cond.holds, Cond.value, h1, h2, h3, h4, g1, g2, g3, g4, g5, g6]
def isCode : Jvm.Cond → Bool
  | .code _ _ _ _ => true
  | _ => false
theorem all_split {L : List Jvm.Cond} {P : Jvm.Cond → Bool} (h1 : L.all (fun c => isCode c || P c) = true) (h2 : ∀ c ∈ L.filter isCode, P c = true) : L.all P = true := by
  refine List.all_eq_true.mpr fun c hc => ?_
  have h := List.all_eq_true.mp h1 c hc
  rcases Bool.eq_false_or_eq_true (isCode c) with hi | hi
  · exact h2 c (List.mem_filter.mpr ⟨hc, hi⟩)
  · simpa [hi] using h
set_option maxRecDepth 65536 in
theorem w_c0 : (Jvm.Cond.code x code maxLocals ret).before args0 about1 = true := code_word (m := ⟨1, 1⟩) (meth := k1m1) (c := k1c1) (by decide +kernel) rfl rfl rfl (by decide +kernel)
set_option maxRecDepth 65536 in
theorem w_c1 : (Jvm.Cond.code ({ cls := "com/example/sourcebill/sourcebill/scan/Words", name := "ones", desc := "()J" } : Jvm.MethodName) prog_96_method_2_code (0 : Nat) (Option.some Jvm.ClassFile.FieldType.long)).before args0 about1 = true := code_word (m := ⟨2, 1⟩) (meth := k2m1) (c := k2c1) (by decide +kernel) rfl rfl rfl (by decide +kernel)
set_option maxRecDepth 65536 in
theorem w_c2 : (Jvm.Cond.code ({ cls := "com/example/sourcebill/sourcebill/scan/WordsZeroOrAbovePinLaw", name := "spread", desc := "(I)J" } : Jvm.MethodName) method_3_code (3 : Nat) (Option.some Jvm.ClassFile.FieldType.long)).before args0 about1 = true := code_word (m := ⟨1, 2⟩) (meth := k1m2) (c := k1c2) (by decide +kernel) rfl rfl rfl (by decide +kernel)
set_option maxRecDepth 65536 in
theorem w_c3 : (Jvm.Cond.code ({ cls := "com/example/sourcebill/sourcebill/scan/Words", name := "zeroOrAbove", desc := "(JJ)J" } : Jvm.MethodName) prog_96_method_5_code (4 : Nat) (Option.some Jvm.ClassFile.FieldType.long)).before args0 about1 = true := code_word (m := ⟨2, 2⟩) (meth := k2m2) (c := k2c2) (by decide +kernel) rfl rfl rfl (by decide +kernel)
set_option maxRecDepth 65536 in
theorem w_c4 : (Jvm.Cond.code ({ cls := "com/example/sourcebill/sourcebill/scan/WordsZeroOrAbovePinLaw", name := "firstZero", desc := "(J)I" } : Jvm.MethodName) method_5_code (2 : Nat) (Option.some Jvm.ClassFile.FieldType.int)).before args0 about1 = true := code_word (m := ⟨1, 4⟩) (meth := k1m4) (c := k1c4) (by decide +kernel) rfl rfl rfl (by decide +kernel)
set_option maxRecDepth 65536 in
theorem w_c5 : (Jvm.Cond.code ({ cls := "com/example/sourcebill/sourcebill/scan/WordsZeroOrAbovePinLaw", name := "byteAt", desc := "(JI)I" } : Jvm.MethodName) method_4_code (3 : Nat) (Option.some Jvm.ClassFile.FieldType.int)).before args0 about1 = true := code_word (m := ⟨1, 3⟩) (meth := k1m3) (c := k1c3) (by decide +kernel) rfl rfl rfl (by decide +kernel)
set_option maxRecDepth 65536 in
theorem w_c6 : (Jvm.Cond.code ({ cls := "com/example/sourcebill/sourcebill/scan/WordsZeroOrAbovePinLaw", name := "ok", desc := "(JJII)Z" } : Jvm.MethodName) method_6_code (8 : Nat) (Option.some Jvm.ClassFile.FieldType.boolean)).before args0 about1 = true := code_word (m := ⟨1, 5⟩) (meth := k1m5) (c := k1c5) (by decide +kernel) rfl rfl rfl (by decide +kernel)
def codes1 : List Jvm.Cond := [Jvm.Cond.code x code maxLocals ret, Jvm.Cond.code ({ cls := "com/example/sourcebill/sourcebill/scan/Words", name := "ones", desc := "()J" } : Jvm.MethodName) prog_96_method_2_code (0 : Nat) (Option.some Jvm.ClassFile.FieldType.long), Jvm.Cond.code ({ cls := "com/example/sourcebill/sourcebill/scan/WordsZeroOrAbovePinLaw", name := "spread", desc := "(I)J" } : Jvm.MethodName) method_3_code (3 : Nat) (Option.some Jvm.ClassFile.FieldType.long), Jvm.Cond.code ({ cls := "com/example/sourcebill/sourcebill/scan/Words", name := "zeroOrAbove", desc := "(JJ)J" } : Jvm.MethodName) prog_96_method_5_code (4 : Nat) (Option.some Jvm.ClassFile.FieldType.long), Jvm.Cond.code ({ cls := "com/example/sourcebill/sourcebill/scan/WordsZeroOrAbovePinLaw", name := "firstZero", desc := "(J)I" } : Jvm.MethodName) method_5_code (2 : Nat) (Option.some Jvm.ClassFile.FieldType.int), Jvm.Cond.code ({ cls := "com/example/sourcebill/sourcebill/scan/WordsZeroOrAbovePinLaw", name := "byteAt", desc := "(JI)I" } : Jvm.MethodName) method_4_code (3 : Nat) (Option.some Jvm.ClassFile.FieldType.int), Jvm.Cond.code ({ cls := "com/example/sourcebill/sourcebill/scan/WordsZeroOrAbovePinLaw", name := "ok", desc := "(JJII)Z" } : Jvm.MethodName) method_6_code (8 : Nat) (Option.some Jvm.ClassFile.FieldType.boolean)]
set_option maxRecDepth 65536 in
theorem codes_eq : words1.filter isCode = codes1 := rfl
theorem w_codes : ∀ c ∈ words1.filter isCode, c.before args0 about1 = true := by
  rw [codes_eq]
  intro c hc
  simp only [codes1, List.mem_cons, List.not_mem_nil, or_false] at hc
  rcases hc with rfl | rfl | rfl | rfl | rfl | rfl | rfl
  · exact w_c0
  · exact w_c1
  · exact w_c2
  · exact w_c3
  · exact w_c4
  · exact w_c5
  · exact w_c6
set_option maxRecDepth 65536 in
theorem w_t1 : (words1.take 24).all (fun c => isCode c || c.before args0 about1) = true := by decide +kernel
set_option maxRecDepth 65536 in
theorem w_t2 : (words1.drop 24).all (fun c => isCode c || c.before args0 about1) = true := by decide +kernel
theorem w_tables : (allAtoms (Jvm.Cond.code x code maxLocals ret :: tables_1)).before args0 about1 = true := by
  rw [allAtoms_all]
  show words1.all (fun c => c.before args0 about1) = true
  refine all_split ?_ w_codes
  rw [← List.take_append_drop 24 words1, List.all_append, w_t1, w_t2]
  rfl
set_option maxRecDepth 65536 in
theorem w_case : (Jvm.Cond.and given_1 narrow_1).before args0 about1 = true := by decide +kernel
theorem w_applies : (headSpec (Jvm.Cond.code x code maxLocals ret :: tables_1) room_1).applies x e0.platform about1 = true :=
  (Spec.applies_iff w_frames).mpr ⟨w_running, w_runnable, w_alone, w_named, w_hears, w_ripe, w_room, w_tables⟩
theorem atStart : AtStart classFile x code maxLocals ret World_1 tables_1 room_1 Calls_1 rest_1 Pre_1 launch0 p0 e0 about1 theMethod args0 below0 :=
  ⟨lists_1, trivial, launch0.admits_env _ _ _, launch0.least_env, fairChoices_fair.cas, fairChoices_fair.clock, w_frames, w_args, w_heap, w_applies, trivial, trivial, w_case⟩
end start1
theorem witness_1 : WitnessClaimed_1 := ⟨start1.p0, start1.e0, start1.about1, start1.theMethod, start1.args0, start1.below0, start1.atStart⟩
end Jvm.Pilot.@@N@@
