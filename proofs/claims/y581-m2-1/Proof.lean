import JvmDerived
import JvmDerived.Pilot.@@N@@Statement
import JvmDerived.Pilot.@@N@@Code
set_option linter.unusedVariables false
set_option linter.unusedSimpArgs false
namespace Jvm.Pilot.@@N@@.W
open Jvm Jvm.ClassFile Sem Op Lib Jvm.Free Jvm.Stand Jvm.LawKit Jvm.RoadKit
/-! own kit: a body's walk in one pass, backwards from its end ('Gl': from here the body comes to its end and there P holds) -/
section Walk
variable {p : Program} {l : Launch} {e : Env} {R : Room} {s : State} {m : MethodId} {args : Array Value} {below : List Frame} {meth : Method} {c : Code} {T T' : State} {locs : List Loc} {cells slots : Nat} {P : Option Value → Heap → List Loc → Prop} {C N : Nat} {Ls : Array Slot} {S : List Value} {pc pc' pc'' : Nat} {g : JFrame}
def Gl (p : Program) (e : Env) (below : List Frame) (s : State) (P : Option Value → Heap → List Loc → Prop) (C N : Nat) (T : State) (g : JFrame) : Prop :=
  ∃ (s₂ : State) (o : Outcome), Steps p.tables e below (T.setTop g) s₂ ∧ s₂.status = .running ∧ Ended s₂ below o ∧ ∃ v L, o = .returned v ∧ P v s₂.heap L ∧ FrameEnd s o s₂ L C N
theorem s1 (g' : JFrame) (h : ∀ t, Steps p.tables e below (T.setTop g') t → Steps p.tables e below (T.setTop g) t) (K : Gl p e below s P C N T g') : Gl p e below s P C N T g := by
  obtain ⟨s₂, o, h1, h2⟩ := K; exact ⟨s₂, o, h _ h1, h2⟩
theorem s2 (g' : JFrame) (h : ∀ t, Steps p.tables e below (T'.setTop g') t → Steps p.tables e below (T.setTop g) t) (K : Gl p e below s P C N T' g') : Gl p e below s P C N T g := by
  obtain ⟨s₂, o, h1, h2⟩ := K; exact ⟨s₂, o, h _ h1, h2⟩
theorem s3 (g' : JFrame) (h : Steps p.tables e below (T.setTop g) (T'.setTop g')) (K : Gl p e below s P C N T' g') : Gl p e below s P C N T g := by
  obtain ⟨s₂, o, h1, h2⟩ := K; exact ⟨s₂, o, h.trans h1, h2⟩
theorem cast {g' : JFrame} (q : g = g') (K : Gl p e below s P C N T g') : Gl p e below s P C N T g := q ▸ K
theorem fin (X : Stand p l e R s m args below meth c T locs cells slots) {v : Option Value} (hv : meth.sig.returnType = none → v = none) (hlk : meth.locks = false)
    (hs : ∀ fs, (∀ (f : JFrame) (acts : List Action), f.method = m → f.locked = none → f.entered = [] → (doReturn e (T.setTop f) acts v).1 = T.setFrames fs) → Steps p.tables e below (T.setTop g) (T.setFrames fs))
    (hP : P v T.heap locs) (hC : cells ≤ C) (hN : slots ≤ N) : Gl p e below s P C N T g := by
  obtain ⟨fs, hr, hrun, hended, hW, hsame⟩ := X.leave hv hlk
  exact ⟨_, _, hs fs hr, hrun, hended, _, _, rfl, hP, ⟨_, rfl⟩, hW, hsame.mono hC hN⟩
theorem retZ (X : Stand p l e R s m args below meth c T locs cells slots) (hx : p.tables.exec = Jvm.exec) (hlk : meth.locks = false) {z z' : Int32} {t : FieldType} (hret : meth.sig.returnType = some t) (ht : t = .boolean ∨ t = .byte ∨ t = .char ∨ t = .short)
    (hd : decode c.code pc = .ok (.ireturn, 1)) (hz : nar t z = z') (hP : P (some (.int z')) T.heap locs) (hC : cells ≤ C) (hN : slots ≤ N) : Gl p e below s P C N T (mkF m pc Ls (.int z :: S)) :=
  fin X (v := some (.int z')) (fun h => by rw [hret] at h; cases h) hlk (fun fs hr => by subst hz; exact RoadKit.retN X hx hret ht hd hr) hP hC hN
theorem retI (X : Stand p l e R s m args below meth c T locs cells slots) (hx : p.tables.exec = Jvm.exec) (hlk : meth.locks = false) {z : Int32} (hret : meth.sig.returnType = some .int)
    (hd : decode c.code pc = .ok (.ireturn, 1)) (hP : P (some (.int z)) T.heap locs) (hC : cells ≤ C) (hN : slots ≤ N) : Gl p e below s P C N T (mkF m pc Ls (.int z :: S)) :=
  fin X (v := some (.int z)) (fun h => by rw [hret] at h; cases h) hlk (fun fs hr => retOut X hx hret rfl (Or.inl ⟨rfl, Or.inl rfl, _, rfl⟩) hd hr) hP hC hN
theorem retL (X : Stand p l e R s m args below meth c T locs cells slots) (hx : p.tables.exec = Jvm.exec) (hlk : meth.locks = false) {z : Int64} (hret : meth.sig.returnType = some .long)
    (hd : decode c.code pc = .ok (.lreturn, 1)) (hP : P (some (.long z)) T.heap locs) (hC : cells ≤ C) (hN : slots ≤ N) : Gl p e below s P C N T (mkF m pc Ls (.long z :: S)) :=
  fin X (v := some (.long z)) (fun h => by rw [hret] at h; cases h) hlk (fun fs hr => retOut X hx hret rfl (Or.inr (Or.inl ⟨rfl, rfl, _, rfl⟩)) hd hr) hP hC hN
theorem retA (X : Stand p l e R s m args below meth c T locs cells slots) (hx : p.tables.exec = Jvm.exec) (hlk : meth.locks = false) {w : Value} {t : FieldType} (hret : meth.sig.returnType = some t) (ht : t.isReference = true) (hw : w.isRef = true) (hn : narrow t w = w)
    (hd : decode c.code pc = .ok (.areturn, 1)) (hP : P (some w) T.heap locs) (hC : cells ≤ C) (hN : slots ≤ N) : Gl p e below s P C N T (mkF m pc Ls (w :: S)) :=
  fin X (v := some w) (fun h => by rw [hret] at h; cases h) hlk (fun fs hr => retOut X hx hret hn (Or.inr (Or.inr (Or.inr (Or.inr ⟨rfl, ht, hw⟩)))) hd hr) hP hC hN
theorem ret0 (X : Stand p l e R s m args below meth c T locs cells slots) (hx : p.tables.exec = Jvm.exec) (hlk : meth.locks = false) (hret : meth.sig.returnType = none)
    (hd : decode c.code pc = .ok (.return_, 1)) (hP : P none T.heap locs) (hC : cells ≤ C) (hN : slots ≤ N) : Gl p e below s P C N T (mkF m pc Ls []) :=
  fin X (v := none) (fun _ => rfl) hlk (fun fs hr => X.returnOut hx hret hd hr) hP hC hN
/-! the branches -/
def cY : ClassFile.Cond → Int32 → Int32 → Prop
  | .eq, x, y => x = y
  | .ne, x, y => ¬ x = y
  | .lt, x, y => x < y
  | .ge, x, y => ¬ x < y
  | .gt, x, y => y < x
  | .le, x, y => ¬ y < x
def cN : ClassFile.Cond → Int32 → Int32 → Prop
  | .eq, x, y => ¬ x = y
  | .ne, x, y => x = y
  | .lt, x, y => ¬ x < y
  | .ge, x, y => x < y
  | .gt, x, y => ¬ y < x
  | .le, x, y => y < x
theorem cOr (cd : ClassFile.Cond) (x y : Int32) : (cY cd x y ∧ if_icmp.holds cd x y = true) ∨ (cN cd x y ∧ if_icmp.holds cd x y = false) := by
  cases cd with
  | eq => by_cases h : x = y; exact Or.inl ⟨h, (teq h).1⟩; exact Or.inr ⟨h, (feq h).1⟩
  | ne => by_cases h : x = y; exact Or.inr ⟨h, (teq h).2⟩; exact Or.inl ⟨h, (feq h).2⟩
  | lt => by_cases h : x < y; exact Or.inl ⟨h, (tlt h).1⟩; exact Or.inr ⟨h, (flt h).1⟩
  | ge => by_cases h : x < y; exact Or.inr ⟨h, (tlt h).2.1⟩; exact Or.inl ⟨h, (flt h).2.1⟩
  | gt => by_cases h : y < x; exact Or.inl ⟨h, (tlt h).2.2.1⟩; exact Or.inr ⟨h, (flt h).2.2.1⟩
  | le => by_cases h : y < x; exact Or.inr ⟨h, (tlt h).2.2.2⟩; exact Or.inl ⟨h, (flt h).2.2.2⟩
def lY : ClassFile.Cond → Int64 → Int64 → Prop
  | .eq, x, y => x = y
  | .ne, x, y => ¬ x = y
  | .lt, x, y => x < y
  | .ge, x, y => ¬ x < y
  | .gt, x, y => y < x
  | .le, x, y => ¬ y < x
def lN : ClassFile.Cond → Int64 → Int64 → Prop
  | .eq, x, y => ¬ x = y
  | .ne, x, y => x = y
  | .lt, x, y => ¬ x < y
  | .ge, x, y => x < y
  | .gt, x, y => ¬ y < x
  | .le, x, y => y < x
theorem lYc {cd : ClassFile.Cond} {x y : Int64} (h : cY cd (lcmpW x y) 0) : lY cd x y := by
  rw [lcW] at h
  cases cd with
  | eq => exact (lc_eq x y).mp h
  | ne => exact fun q => h ((lc_eq x y).mpr q)
  | lt => exact (lc_lt x y).mp h
  | ge => exact fun q => h ((lc_lt x y).mpr q)
  | gt => exact (lc_gt x y).mp h
  | le => exact fun q => h ((lc_gt x y).mpr q)
theorem lNc {cd : ClassFile.Cond} {x y : Int64} (h : cN cd (lcmpW x y) 0) : lN cd x y := by
  rw [lcW] at h
  cases cd with
  | eq => exact fun q => h ((lc_eq x y).mpr q)
  | ne => exact (lc_eq x y).mp h
  | lt => exact fun q => h ((lc_lt x y).mpr q)
  | ge => exact (lc_lt x y).mp h
  | gt => exact fun q => h ((lc_gt x y).mpr q)
  | le => exact (lc_gt x y).mp h
theorem icmp (X : Stand p l e R s m args below meth c T locs cells slots) (hx : p.tables.exec = Jvm.exec) {cd : ClassFile.Cond} {x y : Int32} {o : Int} (hd : decode c.code pc = .ok (.if_icmp cd o, 3)) (ho : 0 ≤ (pc : Int) + o) (hp : ((pc : Int) + o).toNat = pc') (hq : pc + 3 = pc'')
    (ky : cY cd x y → Gl p e below s P C N T (mkF m pc' Ls S)) (kn : cN cd x y → Gl p e below s P C N T (mkF m pc'' Ls S)) : Gl p e below s P C N T (mkF m pc Ls (.int y :: .int x :: S)) := by
  subst hq
  rcases cOr cd x y with ⟨h1, h2⟩ | ⟨h1, h2⟩
  · exact s1 _ (fun t k => XS.icmpYes X.here hx rfl (pc0 := pc) (pc' := pc') rfl hd rfl h2 ho hp k) (ky h1)
  · exact s1 _ (fun t k => XS.icmpNo X.here hx rfl hd rfl h2 k) (kn h1)
theorem ifc (X : Stand p l e R s m args below meth c T locs cells slots) (hx : p.tables.exec = Jvm.exec) {cd : ClassFile.Cond} {x : Int32} {o : Int} (hd : decode c.code pc = .ok (.ifCond cd o, 3)) (ho : 0 ≤ (pc : Int) + o) (hp : ((pc : Int) + o).toNat = pc') (hq : pc + 3 = pc'')
    (ky : cY cd x 0 → Gl p e below s P C N T (mkF m pc' Ls S)) (kn : cN cd x 0 → Gl p e below s P C N T (mkF m pc'' Ls S)) : Gl p e below s P C N T (mkF m pc Ls (.int x :: S)) := by
  subst hq
  rcases cOr cd x 0 with ⟨h1, h2⟩ | ⟨h1, h2⟩
  · exact s1 _ (fun t k => XS.ifYes X.here hx rfl (pc0 := pc) (pc' := pc') rfl hd rfl ((if0 _ _).trans h2) ho hp k) (ky h1)
  · exact s1 _ (fun t k => XS.ifNo X.here hx rfl hd rfl ((if0 _ _).trans h2) k) (kn h1)
theorem lif (X : Stand p l e R s m args below meth c T locs cells slots) (hx : p.tables.exec = Jvm.exec) {cd : ClassFile.Cond} {x y : Int64} {o : Int} (hd1 : decode c.code pc = .ok (.lcmp, 1)) {pc1 : Nat} (h1 : pc + 1 = pc1) (hd : decode c.code pc1 = .ok (.ifCond cd o, 3)) (ho : 0 ≤ (pc1 : Int) + o) (hp : ((pc1 : Int) + o).toNat = pc') (hq : pc1 + 3 = pc'')
    (ky : lY cd x y → Gl p e below s P C N T (mkF m pc' Ls S)) (kn : lN cd x y → Gl p e below s P C N T (mkF m pc'' Ls S)) : Gl p e below s P C N T (mkF m pc Ls (.long y :: .long x :: S)) := by
  subst h1
  exact s1 (mkF m (pc + 1) Ls (.int (lcmpW x y) :: S)) (fun t k => XS.lcmp X.here hx rfl hd1 rfl k) (ifc X hx hd ho hp hq (fun h => ky (lYc h)) (fun h => kn (lNc h)))
end Walk
/-! arrays of ints and of longs, by what each place holds -/
section Arrays
variable {Z : State} {h h' : Heap} {a b : Addr} {ty : FieldType} {n : Nat} {f : Nat → Int32} {q : Nat → Int64}
def up {α : Type} (f : Nat → α) (j : Nat) (v : α) : Nat → α := fun k => if k = j then v else f k
theorem up_same {α : Type} (f : Nat → α) (j : Nat) (v : α) : up f j v j = v := if_pos rfl
theorem up_other {α : Type} (f : Nat → α) {j k : Nat} (v : α) (h : ¬ k = j) : up f j v k = f k := if_neg h
def AI (Z : State) (h : Heap) (a : Addr) (ty : FieldType) (n : Nat) (f : Nat → Int32) : Prop := ∃ c : Cell, Arr Z h a c ty ∧ c.slots.size = n ∧ ∀ k, k < n → c.slots[k]? = some (.int (f k))
def AJ (Z : State) (h : Heap) (a : Addr) (n : Nat) (f : Nat → Int64) : Prop := ∃ c : Cell, Arr Z h a c .long ∧ c.slots.size = n ∧ ∀ k, k < n → c.slots[k]? = some (.long (f k))
theorem AI.lt (F : AI Z h a ty n f) : a < h.size := by obtain ⟨c, A, -⟩ := F; exact A.lt
theorem AJ.lt (F : AJ Z h a n q) : a < h.size := by obtain ⟨c, A, -⟩ := F; exact A.lt
theorem AI.ext (F : AI Z h a ty n f) (E : Ext h h') : AI Z h' a ty n f := by obtain ⟨c, A, r⟩ := F; exact ⟨c, A.ext E, r⟩
theorem AJ.ext (F : AJ Z h a n q) (E : Ext h h') : AJ Z h' a n q := by obtain ⟨c, A, r⟩ := F; exact ⟨c, A.ext E, r⟩
theorem AI.other {sl : Nat} {v : Value} (F : AI Z h b ty n f) (W : Wr h h' a sl v) (e : b ≠ a) : AI Z h' b ty n f := by obtain ⟨c, A, r⟩ := F; exact ⟨c, A.other W e, r⟩
theorem AJ.other {sl : Nat} {v : Value} (F : AJ Z h b n q) (W : Wr h h' a sl v) (e : b ≠ a) : AJ Z h' b n q := by obtain ⟨c, A, r⟩ := F; exact ⟨c, A.other W e, r⟩
theorem AI.keep {ws : List Addr} (F : AI Z h a ty n f) (K : Keep h h' ws) (e : a ∉ ws) : AI Z h' a ty n f := by obtain ⟨c, A, r⟩ := F; exact ⟨c, ⟨K.2.1 a c A.1 e, A.2⟩, r⟩
theorem AJ.keep {ws : List Addr} (F : AJ Z h a n q) (K : Keep h h' ws) (e : a ∉ ws) : AJ Z h' a n q := by obtain ⟨c, A, r⟩ := F; exact ⟨c, ⟨K.2.1 a c A.1 e, A.2⟩, r⟩
theorem slots_set {c : Cell} {j k : Nat} {v : Value} (hj : j < c.slots.size) : (c.setSlot j v).slots[k]? = if k = j then some v else c.slots[k]? := by
  by_cases e : k = j
  · subst e; simp [Cell.setSlot, hj]
  · simp only [Cell.setSlot, if_neg e]; exact Array.getElem?_setIfInBounds_ne (Ne.symm e)
theorem AI.set {j : Nat} {v : Int32} (F : AI Z h a ty n f) (W : Wr h h' a j (.int v)) (hj : j < n) : AI Z h' a ty n (up f j v) := by
  obtain ⟨c, A, r1, r2⟩ := F
  refine ⟨_, A.same W, by rw [sz_set]; exact r1, fun k hk => ?_⟩
  rw [slots_set (by omega)]
  by_cases e : k = j
  · rw [if_pos e, e, up_same]
  · rw [if_neg e, up_other _ _ e]; exact r2 k hk
theorem AJ.set {j : Nat} {v : Int64} (F : AJ Z h a n q) (W : Wr h h' a j (.long v)) (hj : j < n) : AJ Z h' a n (up q j v) := by
  obtain ⟨c, A, r1, r2⟩ := F
  refine ⟨_, A.same W, by rw [sz_set]; exact r1, fun k hk => ?_⟩
  rw [slots_set (by omega)]
  by_cases e : k = j
  · rw [if_pos e, e, up_same]
  · rw [if_neg e, up_other _ _ e]; exact r2 k hk
theorem clamp {z : Int32} (hz : z.toInt = n) : z.toNatClampNeg = n := by simp only [Int32.toNatClampNeg]; omega
theorem AI.new {k : ClassId} {z : Int32} (A : Arr Z h a (newA k ty z) ty) (hz : z.toInt = n) (hd : defaultValue ty = .int 0) : AI Z h a ty n (fun _ => 0) :=
  ⟨_, A, by rw [sz_new]; exact clamp hz, fun i hi => by rw [← clamp hz] at hi; simp [newA, hi, hd]⟩
theorem AJ.new {k : ClassId} {z : Int32} (A : Arr Z h a (newA k .long z) .long) (hz : z.toInt = n) : AJ Z h a n (fun _ => 0) :=
  ⟨_, A, by rw [sz_new]; exact clamp hz, fun i hi => by rw [← clamp hz] at hi; simp [newA, hi, defaultValue]⟩
theorem AI.congr {f' : Nat → Int32} (F : AI Z h a ty n f) (e : ∀ k, k < n → f' k = f k) : AI Z h a ty n f' := by obtain ⟨c, A, r1, r2⟩ := F; exact ⟨c, A, r1, fun k hk => by rw [e k hk]; exact r2 k hk⟩
theorem AJ.congr {f' : Nat → Int64} (F : AJ Z h a n q) (e : ∀ k, k < n → f' k = q k) : AJ Z h a n f' := by obtain ⟨c, A, r1, r2⟩ := F; exact ⟨c, A, r1, fun k hk => by rw [e k hk]; exact r2 k hk⟩
theorem inb {j : Int32} {k sz : Nat} (hj : j.toInt = k) (hk : k < sz) : ¬ (j < 0 ∨ sz ≤ j.toNatClampNeg) := by
  rw [clamp hj, Int32.lt_iff_toInt_lt, hj, show (0 : Int32).toInt = 0 from rfl]; omega
theorem szI {z : Int32} (hz : z.toInt = n) : Nat.toInt32 n = z := by
  rw [← Int32.toInt_inj, len_toInt (by have := z.toInt_lt; omega), hz]
end Arrays
section Steps
variable {p : Program} {l : Launch} {e : Env} {R : Room} {s : State} {m : MethodId} {args : Array Value} {below : List Frame} {meth : Method} {c : Code} {T T' : State} {locs : List Loc} {cells slots : Nat} {P : Option Value → Heap → List Loc → Prop} {C N : Nat} {Ls : Array Slot} {S : List Value} {pc pc' : Nat} {Z : State} {h : Heap} {a : Addr} {n n0 : Nat} {f : Nat → Int32} {q : Nat → Int64} {a0 : Array Value} {ty : FieldType}
theorem getf (X : Stand p l e R s m args below meth c T locs cells slots) (hx : p.tables.exec = Jvm.exec) (hZ : Z.Warmed39 s.vm) {own R0 O n d host : String} {index : Nat} (hown : s.vm.findClass own = some m.cls) (w : (Cond.fieldLink own index R0 n d).before a0 Z = true ∨ (Cond.fieldLinkNest own index R0 n d host).before a0 Z = true) (via : Via Z R0 O n d)
    (eT : T.heap = h) {v : Value} (F : Fld Z h a O n d v) (hd : decode c.code pc = .ok (.getfield index, 3)) (hq : pc + 3 = pc') (K : ∀ T', Stand p l e R s m args below meth c T' locs cells slots → T'.heap = h → Gl p e below s P C N T' (mkF m pc' Ls (v :: S))) : Gl p e below s P C N T (mkF m pc Ls (.ref a :: S)) := by
  subst hq
  obtain ⟨T', X', e', st⟩ := getF X hx hZ hown w via eT F (g := mkF m pc Ls (.ref a :: S)) rfl rfl hd
  exact s2 _ st (K T' X' e')
theorem gets (X : Stand p l e R s m args below meth c T locs cells slots) (hx : p.tables.exec = Jvm.exec) (hZ : Z.Warmed39 s.vm) {own R0 O n d host : String} {index : Nat} (hown : s.vm.findClass own = some m.cls) (w : (Cond.fieldLink own index R0 n d).before a0 Z = true ∨ (Cond.fieldLinkNest own index R0 n d host).before a0 Z = true) (via : Via Z R0 O n d)
    (eT : T.heap = h) {v : Value} (F : Sta Z h O n d v) (hd : decode c.code pc = .ok (.getstatic index, 3)) (hq : pc + 3 = pc') (K : ∀ T', Stand p l e R s m args below meth c T' locs cells slots → T'.heap = h → Gl p e below s P C N T' (mkF m pc' Ls (v :: S))) : Gl p e below s P C N T (mkF m pc Ls S) := by
  subst hq
  obtain ⟨T', X', e', st⟩ := getS2 X hx hZ hown w via eT F (g := mkF m pc Ls S) rfl hd
  exact s2 _ st (K T' X' e')
theorem putf (X : Stand p l e R s m args below meth c T locs cells slots) (hx : p.tables.exec = Jvm.exec) (hZ : Z.Warmed39 s.vm) {own R0 O n d host Cl : String} {index kk : Nat} (hown : s.vm.findClass own = some m.cls) (w : (Cond.fieldLink own index R0 n d).before a0 Z = true ∨ (Cond.fieldLinkNest own index R0 n d host).before a0 Z = true) (via : Via Z R0 O n d)
    (eT : T.heap = h) {v old : Value} (F : Fld Z h a O n d old) (E : Exa Z h a Cl) (L : (Cond.lays Cl O n d).before a0 Z = true ∨ ((Cond.laysFinal Cl O n d).before a0 Z = true ∧ own = O ∧ meth.name = "<init>")) (wi : (Cond.instantiable Cl kk).before a0 Z = true)
    (hty : parseFieldDescriptor d = some ty) (hn : narrow ty v = v) (hf : fits ty v = true) (N0 : Fr n0 locs) (ga : n0 ≤ a) (hd : decode c.code pc = .ok (.putfield index, 3)) (hq : pc + 3 = pc')
    (K : ∀ T' h' L', Stand p l e R s m args below meth c T' L' cells slots → T'.heap = h' → Wr h h' a (RoadKit.slotOf Z O n d) v → Fld Z h' a O n d v → Fr n0 L' → Gl p e below s P C N T' (mkF m pc' Ls S)) : Gl p e below s P C N T (mkF m pc Ls (v :: .ref a :: S)) := by
  subst hq
  obtain ⟨T', h', X', e', W, st⟩ := putF X hx hZ hown w via eT F E L wi hty hn hf (g := mkF m pc Ls (v :: .ref a :: S)) rfl rfl hd
  exact s2 _ st (K T' h' _ X' e' W (F.same W) (Fr.snoc X' N0 ga))
theorem newo (X : Stand p l e R s m args below meth c T locs cells slots) (hx : p.tables.exec = Jvm.exec) (hZ : Z.Warmed39 s.vm) {own Cl : String} {index n : Nat} (hown : s.vm.findClass own = some m.cls) (w : (Cond.classLink own index Cl).before a0 Z = true) (wi : (Cond.instantiable Cl n).before a0 Z = true) (wz : (Cond.initialized Cl).before a0 Z = true) (eT : T.heap = h)
    (hd : decode c.code pc = .ok (.new index, 3)) (hc : cells + 1 ≤ R.cells) (hl : slots + n ≤ R.slots) (hq : pc + 3 = pc')
    (K : ∀ T' h' a, Stand p l e R s m args below meth c T' locs (cells + 1) (slots + n) → T'.heap = h' → Ext h h' → a = h.size → Exa Z h' a Cl → (∀ {O nm d : String} {ty : FieldType}, Laid Z a0 Cl O nm d → parseFieldDescriptor d = some ty → Fld Z h' a O nm d (defaultValue ty)) → Gl p e below s P C N T' (mkF m pc' Ls (.ref a :: S))) : Gl p e below s P C N T (mkF m pc Ls S) := by
  subst hq
  obtain ⟨T', h', X', e', E, A, D, -, st⟩ := newO X hx hZ hown w wi wz eT (g := mkF m pc Ls S) rfl hd hc hl
  exact s2 _ st (K T' h' _ X' e' E rfl A D)
theorem newi (X : Stand p l e R s m args below meth c T locs cells slots) (hx : p.tables.exec = Jvm.exec) (hZ : Z.Warmed39 s.vm) {aty : ArrayType} (w : (Cond.arrayClass ty).before a0 Z = true) (hty : newarray.typeOf aty = ty) (hdv : defaultValue ty = .int 0) (eT : T.heap = h) {z : Int32} (hd : decode c.code pc = .ok (.newarray aty, 2)) (hz : z.toInt = n) {cap : Nat} (hcap : n ≤ cap) (hb : cap * 8 ≤ 536870912) (hc : cells + 1 ≤ R.cells) (hl : slots + cap ≤ R.slots) (hq : pc + 2 = pc')
    (K : ∀ T' h' a, Stand p l e R s m args below meth c T' locs (cells + 1) (slots + cap) → T'.heap = h' → Ext h h' → a = h.size → AI Z h' a ty n (fun _ => 0) → Gl p e below s P C N T' (mkF m pc' Ls (.ref a :: S))) : Gl p e below s P C N T (mkF m pc Ls (.int z :: S)) := by
  subst hq hty
  obtain ⟨T', h', k, X', e', E, A, st⟩ := newP X hx hZ w eT (g := mkF m pc Ls (.int z :: S)) rfl hd rfl (by rw [Int32.lt_iff_toInt_lt, hz, show (0 : Int32).toInt = 0 from rfl]; omega) (cap := cap) (by rw [clamp hz]; exact hcap) hb hc hl
  exact s2 _ st (K T' h' _ X' e' E rfl (AI.new A hz hdv))
theorem newj (X : Stand p l e R s m args below meth c T locs cells slots) (hx : p.tables.exec = Jvm.exec) (hZ : Z.Warmed39 s.vm) (w : (Cond.arrayClass .long).before a0 Z = true) (eT : T.heap = h) {z : Int32} (hd : decode c.code pc = .ok (.newarray .long, 2)) (hz : z.toInt = n) {cap : Nat} (hcap : n ≤ cap) (hb : cap * 8 ≤ 536870912) (hc : cells + 1 ≤ R.cells) (hl : slots + cap ≤ R.slots) (hq : pc + 2 = pc')
    (K : ∀ T' h' a, Stand p l e R s m args below meth c T' locs (cells + 1) (slots + cap) → T'.heap = h' → Ext h h' → a = h.size → AJ Z h' a n (fun _ => 0) → Gl p e below s P C N T' (mkF m pc' Ls (.ref a :: S))) : Gl p e below s P C N T (mkF m pc Ls (.int z :: S)) := by
  subst hq
  obtain ⟨T', h', k, X', e', E, A, st⟩ := newP X hx hZ (aty := .long) w eT (g := mkF m pc Ls (.int z :: S)) rfl hd rfl (by rw [Int32.lt_iff_toInt_lt, hz, show (0 : Int32).toInt = 0 from rfl]; omega) (cap := cap) (by rw [clamp hz]; exact hcap) hb hc hl
  exact s2 _ st (K T' h' _ X' e' E rfl (AJ.new A hz))
theorem ldi (X : Stand p l e R s m args below meth c T locs cells slots) (hx : p.tables.exec = Jvm.exec) (hZ : Z.Warmed39 s.vm) (eT : T.heap = h) (F : AI Z h a .int n f) {j : Int32} (k : Nat) (hj : j.toInt = k) (hk : k < n) (hd : decode c.code pc = .ok (.iaload, 1)) (hq : pc + 1 = pc')
    (K : Gl p e below s P C N T (mkF m pc' Ls (.int (f k) :: S))) : Gl p e below s P C N T (mkF m pc Ls (.int j :: .ref a :: S)) := by
  subst hq
  obtain ⟨cl, A, r1, r2⟩ := F
  exact s1 _ (fun t q => X.iaload hx (v := .int (f k)) (by rw [eT]; exact A.1) (State.isArrayOf_alike hZ.alike A.2.1) A.2.2 (inb hj (by omega)) (by rw [clamp hj]; exact r2 k hk) (g := mkF m pc Ls (.int j :: .ref a :: S)) rfl rfl hd t q) K
theorem ldz (X : Stand p l e R s m args below meth c T locs cells slots) (hx : p.tables.exec = Jvm.exec) (hZ : Z.Warmed39 s.vm) (eT : T.heap = h) (F : AI Z h a .boolean n f) {j : Int32} (k : Nat) (hj : j.toInt = k) (hk : k < n) (hd : decode c.code pc = .ok (.baload, 1)) (hq : pc + 1 = pc')
    (K : Gl p e below s P C N T (mkF m pc' Ls (.int (f k) :: S))) : Gl p e below s P C N T (mkF m pc Ls (.int j :: .ref a :: S)) := by
  subst hq
  obtain ⟨cl, A, r1, r2⟩ := F
  exact s1 _ (fun t q => X.baloadBooleans hx (v := .int (f k)) (by rw [eT]; exact A.1) (State.isArrayOf_alike hZ.alike A.2.1) A.2.2 (inb hj (by omega)) (by rw [clamp hj]; exact r2 k hk) (g := mkF m pc Ls (.int j :: .ref a :: S)) rfl rfl hd t q) K
theorem ldb (X : Stand p l e R s m args below meth c T locs cells slots) (hx : p.tables.exec = Jvm.exec) (hZ : Z.Warmed39 s.vm) (eT : T.heap = h) (F : AI Z h a .byte n f) {j : Int32} (k : Nat) (hj : j.toInt = k) (hk : k < n) (hd : decode c.code pc = .ok (.baload, 1)) (hq : pc + 1 = pc')
    (K : Gl p e below s P C N T (mkF m pc' Ls (.int (f k) :: S))) : Gl p e below s P C N T (mkF m pc Ls (.int j :: .ref a :: S)) := by
  subst hq
  obtain ⟨cl, A, r1, r2⟩ := F
  exact s1 _ (fun t q => X.baloadBytes hx (v := .int (f k)) (by rw [eT]; exact A.1) (State.isArrayOf_alike hZ.alike A.2.1) A.2.2 (inb hj (by omega)) (by rw [clamp hj]; exact r2 k hk) (g := mkF m pc Ls (.int j :: .ref a :: S)) rfl rfl hd t q) K
theorem ldj (X : Stand p l e R s m args below meth c T locs cells slots) (hx : p.tables.exec = Jvm.exec) (hZ : Z.Warmed39 s.vm) (eT : T.heap = h) (F : AJ Z h a n q) {j : Int32} (k : Nat) (hj : j.toInt = k) (hk : k < n) (hd : decode c.code pc = .ok (.laload, 1)) (hq : pc + 1 = pc')
    (K : Gl p e below s P C N T (mkF m pc' Ls (.long (q k) :: S))) : Gl p e below s P C N T (mkF m pc Ls (.int j :: .ref a :: S)) := by
  subst hq
  obtain ⟨cl, A, r1, r2⟩ := F
  exact s1 _ (fun t u => X.laload hx (v := .long (q k)) (by rw [eT]; exact A.1) (State.isArrayOf_alike hZ.alike A.2.1) A.2.2 (inb hj (by omega)) (by rw [clamp hj]; exact r2 k hk) (g := mkF m pc Ls (.int j :: .ref a :: S)) rfl rfl hd t u) K
theorem alen (X : Stand p l e R s m args below meth c T locs cells slots) (hx : p.tables.exec = Jvm.exec) (hZ : Z.Warmed39 s.vm) (eT : T.heap = h) (F : AI Z h a ty n f) {z : Int32} (hz : z.toInt = n) (hd : decode c.code pc = .ok (.arraylength, 1)) (hq : pc + 1 = pc')
    (K : Gl p e below s P C N T (mkF m pc' Ls (.int z :: S))) : Gl p e below s P C N T (mkF m pc Ls (.ref a :: S)) := by
  subst hq
  obtain ⟨cl, A, r1, r2⟩ := F
  exact s1 _ (fun t u => X.arraylength hx (by rw [eT]; exact A.1) (State.isArrayOf_alike hZ.alike A.2.1) (g := mkF m pc Ls (.ref a :: S)) rfl rfl hd t (by rw [r1, szI hz]; exact u)) K
theorem alenJ (X : Stand p l e R s m args below meth c T locs cells slots) (hx : p.tables.exec = Jvm.exec) (hZ : Z.Warmed39 s.vm) (eT : T.heap = h) (F : AJ Z h a n q) {z : Int32} (hz : z.toInt = n) (hd : decode c.code pc = .ok (.arraylength, 1)) (hq : pc + 1 = pc')
    (K : Gl p e below s P C N T (mkF m pc' Ls (.int z :: S))) : Gl p e below s P C N T (mkF m pc Ls (.ref a :: S)) := by
  subst hq
  obtain ⟨cl, A, r1, r2⟩ := F
  exact s1 _ (fun t u => X.arraylength hx (by rw [eT]; exact A.1) (State.isArrayOf_alike hZ.alike A.2.1) (g := mkF m pc Ls (.ref a :: S)) rfl rfl hd t (by rw [r1, szI hz]; exact u)) K
theorem sti (X : Stand p l e R s m args below meth c T locs cells slots) (hx : p.tables.exec = Jvm.exec) (hZ : Z.Warmed39 s.vm) (eT : T.heap = h) (F : AI Z h a .int n f) {j x : Int32} (k : Nat) (hj : j.toInt = k) (hk : k < n) (N0 : Fr n0 locs) (ga : n0 ≤ a) (hd : decode c.code pc = .ok (.iastore, 1)) (hq : pc + 1 = pc')
    (K : ∀ T' h' L', Stand p l e R s m args below meth c T' L' cells slots → T'.heap = h' → Wr h h' a k (.int x) → AI Z h' a .int n (up f k x) → Fr n0 L' → Gl p e below s P C N T' (mkF m pc' Ls S)) : Gl p e below s P C N T (mkF m pc Ls (.int x :: .int j :: .ref a :: S)) := by
  subst hq
  obtain ⟨cl, A, r1, r2⟩ := F
  obtain ⟨T', h', X', e', W, st⟩ := stI X hx hZ eT A (inb hj (by omega)) (g := mkF m pc Ls (.int x :: .int j :: .ref a :: S)) rfl rfl hd
  have N1 := Fr.snoc X' N0 ga
  rw [clamp hj] at W
  exact s2 _ st (K T' h' _ X' e' W (AI.set ⟨cl, A, r1, r2⟩ W hk) N1)
theorem stz (X : Stand p l e R s m args below meth c T locs cells slots) (hx : p.tables.exec = Jvm.exec) (hZ : Z.Warmed39 s.vm) (eT : T.heap = h) (F : AI Z h a .boolean n f) {j x x' : Int32} (hn : nar .boolean x = x') (k : Nat) (hj : j.toInt = k) (hk : k < n) (N0 : Fr n0 locs) (ga : n0 ≤ a) (hd : decode c.code pc = .ok (.bastore, 1)) (hq : pc + 1 = pc')
    (K : ∀ T' h' L', Stand p l e R s m args below meth c T' L' cells slots → T'.heap = h' → Wr h h' a k (.int x') → AI Z h' a .boolean n (up f k x') → Fr n0 L' → Gl p e below s P C N T' (mkF m pc' Ls S)) : Gl p e below s P C N T (mkF m pc Ls (.int x :: .int j :: .ref a :: S)) := by
  subst hq hn
  obtain ⟨cl, A, r1, r2⟩ := F
  obtain ⟨T', h', X', e', W, st⟩ := stZ X hx hZ eT A (inb hj (by omega)) (g := mkF m pc Ls (.int x :: .int j :: .ref a :: S)) rfl rfl hd
  have N1 := Fr.snoc X' N0 ga
  rw [clamp hj] at W
  exact s2 _ st (K T' h' _ X' e' W (AI.set ⟨cl, A, r1, r2⟩ W hk) N1)
theorem stb (X : Stand p l e R s m args below meth c T locs cells slots) (hx : p.tables.exec = Jvm.exec) (hZ : Z.Warmed39 s.vm) (eT : T.heap = h) (F : AI Z h a .byte n f) {j x x' : Int32} (hn : nar .byte x = x') (k : Nat) (hj : j.toInt = k) (hk : k < n) (N0 : Fr n0 locs) (ga : n0 ≤ a) (hd : decode c.code pc = .ok (.bastore, 1)) (hq : pc + 1 = pc')
    (K : ∀ T' h' L', Stand p l e R s m args below meth c T' L' cells slots → T'.heap = h' → Wr h h' a k (.int x') → AI Z h' a .byte n (up f k x') → Fr n0 L' → Gl p e below s P C N T' (mkF m pc' Ls S)) : Gl p e below s P C N T (mkF m pc Ls (.int x :: .int j :: .ref a :: S)) := by
  subst hq hn
  obtain ⟨cl, A, r1, r2⟩ := F
  obtain ⟨T', h', X', e', W, st⟩ := stB X hx hZ eT A (inb hj (by omega)) (g := mkF m pc Ls (.int x :: .int j :: .ref a :: S)) rfl rfl hd
  have N1 := Fr.snoc X' N0 ga
  rw [clamp hj] at W
  exact s2 _ st (K T' h' _ X' e' W (AI.set ⟨cl, A, r1, r2⟩ W hk) N1)
theorem stj (X : Stand p l e R s m args below meth c T locs cells slots) (hx : p.tables.exec = Jvm.exec) (hZ : Z.Warmed39 s.vm) (eT : T.heap = h) (F : AJ Z h a n q) {j : Int32} {x : Int64} (k : Nat) (hj : j.toInt = k) (hk : k < n) (N0 : Fr n0 locs) (ga : n0 ≤ a) (hd : decode c.code pc = .ok (.lastore, 1)) (hq : pc + 1 = pc')
    (K : ∀ T' h' L', Stand p l e R s m args below meth c T' L' cells slots → T'.heap = h' → Wr h h' a k (.long x) → AJ Z h' a n (up q k x) → Fr n0 L' → Gl p e below s P C N T' (mkF m pc' Ls S)) : Gl p e below s P C N T (mkF m pc Ls (.long x :: .int j :: .ref a :: S)) := by
  subst hq
  obtain ⟨cl, A, r1, r2⟩ := F
  obtain ⟨T', h', X', e', W, st⟩ := stJ X hx hZ eT A (inb hj (by omega)) (g := mkF m pc Ls (.long x :: .int j :: .ref a :: S)) rfl rfl hd
  have N1 := Fr.snoc X' N0 ga
  rw [clamp hj] at W
  exact s2 _ st (K T' h' _ X' e' W (AJ.set ⟨cl, A, r1, r2⟩ W hk) N1)
end Steps
end Jvm.Pilot.@@N@@.W
namespace Jvm.Pilot.@@N@@.W
open Jvm Jvm.ClassFile Sem Op Lib Jvm.Free Jvm.Stand Jvm.LawKit Jvm.RoadKit
/-! own kit, second part: int arrays that are cloned and copied -/
section Copy
variable {p : Program} {l : Launch} {e : Env} {R : Room} {s : State} {m : MethodId} {args : Array Value} {below : List Frame} {meth : Method} {c : Code} {T T' : State} {locs : List Loc} {cells slots : Nat} {P : Option Value → Heap → List Loc → Prop} {C N : Nat} {Ls : Array Slot} {S : List Value} {pc pc' : Nat} {Z : State} {h : Heap} {a b : Addr} {n n0 : Nat} {f q : Nat → Int32} {a0 : Array Value} {ty : FieldType}
theorem newie (X : Stand p l e R s m args below meth c T locs cells slots) (hx : p.tables.exec = Jvm.exec) (hZ : Z.Warmed39 s.vm) {aty : ArrayType} (w : (Cond.arrayClass ty).before a0 Z = true) (hty : newarray.typeOf aty = ty) (hdv : defaultValue ty = .int 0) (eT : T.heap = h) {z : Int32} (hd : decode c.code pc = .ok (.newarray aty, 2)) (hz : z.toInt = n) {cap : Nat} (hcap : n ≤ cap) (hb : cap * 8 ≤ 536870912) (hc : cells + 1 ≤ R.cells) (hl : slots + cap ≤ R.slots) {ad : String} (had : "[" ++ ty.toString = ad) (hq : pc + 2 = pc')
    (K : ∀ T' h' a, Stand p l e R s m args below meth c T' locs (cells + 1) (slots + cap) → T'.heap = h' → Ext h h' → a = h.size → AI Z h' a ty n (fun _ => 0) → Exa Z h' a ad → Gl p e below s P C N T' (mkF m pc' Ls (.ref a :: S))) : Gl p e below s P C N T (mkF m pc Ls (.int z :: S)) := by
  subst hq hty
  obtain ⟨T', h', k, X', e', E, A, E2, st⟩ := newPE X hx hZ w eT (g := mkF m pc Ls (.int z :: S)) rfl hd rfl (by rw [Int32.lt_iff_toInt_lt, hz, show (0 : Int32).toInt = 0 from rfl]; omega) (cap := cap) (by rw [clamp hz]; exact hcap) hb hc hl had
  exact s2 _ st (K T' h' _ X' e' E rfl (AI.new A hz hdv) E2)
theorem getD_map (n k : Nat) (g : Nat → Value) (d : Value) (hk : k < n) : ((List.range n).map g).getD k d = g k := by
  rw [List.getD_eq_getElem?_getD, List.getElem?_map, List.getElem?_range hk]; rfl
theorem AI.arv (F : AI Z h a .int n f) {z : Int32} (hz : z.toInt = n) : ∃ k, Arv Z h a k .int z ((List.range n).map fun i => .int (f i)) (.int 0) := by
  obtain ⟨cl, A, r1, r2⟩ := F
  refine ⟨cl.cls, cl, A, rfl, by rw [r1, clamp hz], by rw [Int32.lt_iff_toInt_lt, hz, show (0 : Int32).toInt = 0 from rfl]; omega, fun k hk => ?_, fun k hk => ?_⟩
  · rw [r1] at hk; rw [getD_map n k _ _ hk]; exact r2 k hk
  · rw [r1] at hk; rw [getD_map n k _ _ hk]; rfl
theorem AI.ofArv {k : ClassId} {z : Int32} {vs : List Value} {d : Value} (F : Arv Z h a k .int z vs d) (hz : z.toInt = n) (hv : ∀ i, i < n → vs.getD i d = .int (f i)) : AI Z h a .int n f := by
  obtain ⟨cl, A, -, r1, -, H, -⟩ := F
  rw [clamp hz] at r1
  exact ⟨cl, A, r1, fun i hi => by rw [H i (by omega), hv i hi]⟩
theorem cpi (X : Stand p l e R s m args below meth c T locs cells slots) (hx : p.tables.exec = Jvm.exec) (hZ : Z.Warmed39 s.vm) {own : String} {index : Nat} (hown : s.vm.findClass own = some m.cls)
    (w1 : (Cond.methodLink own index Jvm.Stand.acN).before a0 Z = true) (w2 : (Cond.native Jvm.Stand.acN).before a0 Z = true) (w3 : (Cond.static Jvm.Stand.acN).before a0 Z = true) (w4 : (Cond.initialized "java/lang/System").before a0 Z = true) (eT : T.heap = h)
    {k : Nat} {z z' nn : Int32} (A : AI Z h a .int n f) (hz : z.toInt = n) {nd : Nat} (B : AI Z h b .int nd q) (hz' : z'.toInt = nd) (hn : nn.toInt = k) (hk : k ≤ n) (hk' : k ≤ nd) (N0 : Fr n0 locs) (ge : n0 ≤ b)
    (hsize : Ls.size = c.maxLocals) (hd : decode c.code pc = .ok (.invokestatic index, 3)) (hf : 1 ≤ R.frames) {Wd : Nat} (hW : (S.map fun v => v.category).sum ≤ Wd) (hlo : Wd + 18 ≤ R.locals) (hq : pc + 3 = pc')
    (K : ∀ T' h' L', Stand p l e R s m args below meth c T' L' cells slots → T'.heap = h' → Fr n0 L' → Keep h h' [b] → AI Z h' b .int nd (fun i => if i < k then f i else q i) → Gl p e below s P C N T' (mkF m pc' Ls S)) :
    Gl p e below s P C N T (mkF m pc Ls (.int nn :: .int 0 :: .ref b :: .int 0 :: .ref a :: S)) := by
  subst hq
  obtain ⟨ka, VA⟩ := A.arv hz
  obtain ⟨kb, VB⟩ := B.arv hz'
  have c0 : (0 : Int32).toNatClampNeg = 0 := rfl
  have hnl : ¬ nn < 0 := by rw [Int32.lt_iff_toInt_lt, hn, show (0 : Int32).toInt = 0 from rfl]; omega
  obtain ⟨T', h', L', X', e', N', K', V', st⟩ := cpA X hx hZ hown w1 w2 w3 w4 eT VA VB (Or.inl ⟨rfl, rfl⟩) (sp := 0) (dp := 0) (nn := nn) (by decide) (by decide) hnl (by rw [c0, clamp hn, clamp hz]; omega) (by rw [c0, clamp hn, clamp hz']; omega) rfl (by rw [c0, clamp hn, List.length_map, List.length_range]; omega) N0 ge (g := mkF m pc Ls (.int nn :: .int 0 :: .ref b :: .int 0 :: .ref a :: S)) rfl hsize rfl hd hf (W := Wd) (by show 2 * 0 + _ ≤ _; omega) (by rw [show nativeFrameWords "java/lang/System" "arraycopy" 5 = 7 from rfl]; omega)
  refine s2 _ st (K T' h' L' X' e' N' K' (AI.ofArv V' hz' fun i hi => ?_))
  rw [c0, clamp hn, List.take_zero, List.nil_append, List.getD_eq_getElem?_getD]
  by_cases hik : i < k
  · rw [if_pos hik, List.getElem?_append_left (by rw [List.length_map, List.length_range]; exact hik), List.getElem?_map, List.getElem?_range hik]
    simp only [Option.map_some, Option.getD_some, Nat.zero_add]
    exact getD_map n i _ _ (by omega)
  · rw [if_neg hik, List.getElem?_append_right (by rw [List.length_map, List.length_range]; omega), List.length_map, List.length_range, List.getElem?_drop, Nat.zero_add, show k + (i - k) = i by omega, List.getElem?_map, List.getElem?_range hi]
    rfl
theorem clonei (X : Stand p l e R s m args below meth c T locs cells slots) (hx : p.tables.exec = Jvm.exec) (hZ : Z.Warmed39 s.vm) {own ad : String} {index : Nat} (hown : s.vm.findClass own = some m.cls)
    (w1 : (Cond.methodLink own index ⟨ad, "clone", "()Ljava/lang/Object;"⟩).before a0 Z = true) (w2 : (Cond.sameMethod ad "java/lang/Object" "clone" "()Ljava/lang/Object;").before a0 Z = true) (w3 : (Cond.native ⟨"java/lang/Object", "clone", "()Ljava/lang/Object;"⟩).before a0 Z = true)
    (w4 : (Cond.instanceMethod ⟨"java/lang/Object", "clone", "()Ljava/lang/Object;"⟩).before a0 Z = true) (w5 : (Cond.selects ad ⟨ad, "clone", "()Ljava/lang/Object;"⟩ ⟨"java/lang/Object", "clone", "()Ljava/lang/Object;"⟩).before a0 Z = true) (w6 : (Cond.castable ad "java/lang/Cloneable").before a0 Z = true)
    (eT : T.heap = h) (F : AI Z h a .int n f) (E : Exa Z h a ad) (hsize : Ls.size = c.maxLocals) (hd : decode c.code pc = .ok (.invokevirtual index, 3)) (hf : 1 ≤ R.frames) {Wd cap : Nat} (hW : (S.map fun v => v.category).sum ≤ Wd) (hl : Wd + 14 ≤ R.locals) (hcap : n ≤ cap) (hc : cells + 1 ≤ R.cells) (hsl : slots + cap ≤ R.slots) (hq : pc + 3 = pc')
    (K : ∀ T' h' b, Stand p l e R s m args below meth c T' locs (cells + 1) (slots + cap) → T'.heap = h' → Ext h h' → b = h.size → AI Z h' b .int n f → Exa Z h' b ad → Gl p e below s P C N T' (mkF m pc' Ls (.ref b :: S))) : Gl p e below s P C N T (mkF m pc Ls (.ref a :: S)) := by
  subst hq
  obtain ⟨cl, A, r1, r2⟩ := F
  obtain ⟨T', h', X', e', E', A', E2, st⟩ := cloneA X hx hZ hown w1 w2 w3 w4 w5 w6 eT A E (fitC_of A fun i hi v hv => by rw [r2 i (by omega)] at hv; cases hv; rfl) (g := mkF m pc Ls (.ref a :: S)) rfl hsize rfl hd hf (W := Wd) (cap := cap) (by show 2 * 0 + _ ≤ _; omega) hl (by omega) hc hsl
  exact s2 _ st (K T' h' _ X' e' E' rfl ⟨_, A', r1, r2⟩ E2)
theorem castc (X : Stand p l e R s m args below meth c T locs cells slots) (hx : p.tables.exec = Jvm.exec) (hZ : Z.Warmed39 s.vm) {own Kc : String} {index : Nat} (hown : s.vm.findClass own = some m.cls) (w : (Cond.classLink own index Kc).before a0 Z = true) (eT : T.heap = h) (F : Ins Z h a Kc true) (hd : decode c.code pc = .ok (.checkcast index, 3)) (hq : pc + 3 = pc')
    (K : ∀ T', Stand p l e R s m args below meth c T' locs cells slots → T'.heap = h → Gl p e below s P C N T' (mkF m pc' Ls (.ref a :: S))) : Gl p e below s P C N T (mkF m pc Ls (.ref a :: S)) := by
  subst hq
  obtain ⟨T', X', e', st⟩ := castY X hx hZ hown w eT F (g := mkF m pc Ls (.ref a :: S)) rfl rfl hd
  exact s2 _ st (K T' X' e')
end Copy
end Jvm.Pilot.@@N@@.W
namespace Jvm.Pilot.@@N@@
open Jvm Jvm.ClassFile Sem Op Lib Jvm.Free Jvm.Stand Jvm.LawKit Jvm.RoadKit Bundle Jvm.Pilot.@@N@@.Jvm.D
def own_NP (Z : State) (h : Heap) (ao ap an : Addr) (n : Nat) (xs : List Int32) : Prop := ∃ (pf nf : Nat → Int32) (ct : Int32), Exa Z h ao "com/example/tempora/tempora/NotedPoints" ∧ Fld Z h ao "com/example/tempora/tempora/NotedPoints" "points" "[I" (.ref ap) ∧ Fld Z h ao "com/example/tempora/tempora/NotedPoints" "noted" "[Z" (.ref an) ∧ Fld Z h ao "com/example/tempora/tempora/NotedPoints" "count" "I" (.int ct) ∧ W.AI Z h ap .int n pf ∧ W.AI Z h an .boolean n nf ∧ True ∧ ct.toInt = (xs.length : Int) ∧ (∀ i, i < xs.length → pf i = xs.getD i 0) ∧ (∀ j, j < n → nf j = if Int32.ofNat j ∈ xs then 1 else 0) ∧ (∀ x ∈ xs, ∃ k : Nat, x.toInt = k ∧ k < n)
theorem own_ofNat {x : Int32} {k : Nat} (h : x.toInt = k) : Int32.ofNat k = x := by
  rw [← Int32.toInt_inj, Int32.toInt_ofNat_small (by have := x.toInt_lt; omega), h]
theorem own_getD {xs : List Int32} {x : Int32} : ∀ i, i < (xs ++ [x]).length → W.up (fun i => xs.getD i 0) xs.length x i = (xs ++ [x]).getD i 0 := by
  intro i hi
  rw [List.length_append, List.length_singleton] at hi
  by_cases e : i = xs.length
  · subst e; rw [W.up_same, List.getD_eq_getElem?_getD, List.getElem?_append_right (Nat.le_refl _), Nat.sub_self]; rfl
  · rw [W.up_other _ _ e, List.getD_eq_getElem?_getD, List.getD_eq_getElem?_getD, List.getElem?_append_left (by omega)]
theorem own_add {pf nf : Nat → Int32} {ct x : Int32} {n k : Nat} {xs : List Int32} (hx : x.toInt = k) (hk : k < n) (h1 : ct.toInt = (xs.length : Int)) (hl : xs.length < n) (hn : n ≤ 8) (h2 : ∀ i, i < xs.length → pf i = xs.getD i 0) (h3 : ∀ j, j < n → nf j = if Int32.ofNat j ∈ xs then 1 else 0) (h4 : ∀ x ∈ xs, ∃ k : Nat, x.toInt = k ∧ k < n) :
    (ct + 1).toInt = ((xs ++ [x]).length : Int) ∧ (∀ i, i < (xs ++ [x]).length → W.up pf xs.length x i = (xs ++ [x]).getD i 0) ∧ (∀ j, j < n → W.up nf k 1 j = if Int32.ofNat j ∈ xs ++ [x] then 1 else 0) ∧ (∀ y ∈ xs ++ [x], ∃ k : Nat, y.toInt = k ∧ k < n) := by
  refine ⟨?_, fun i hi => ?_, fun j hj => ?_, fun y hy => ?_⟩
  · have a := c_iadd ct 1
    have b := rng32 (ct + 1)
    have e1 : (1 : Int32).toInt = 1 := rfl
    rw [List.length_append, List.length_singleton]; omega
  · rw [← own_getD i hi]
    by_cases e : i = xs.length
    · rw [e, W.up_same, W.up_same]
    · rw [List.length_append, List.length_singleton] at hi
      rw [W.up_other _ _ e, W.up_other _ _ e]; exact h2 i (by omega)
  · by_cases e : j = k
    · rw [e, W.up_same, own_ofNat hx, if_pos (List.mem_append_right _ (List.mem_singleton.mpr rfl))]
    · rw [W.up_other _ _ e, h3 j hj]
      have ne : ¬ Int32.ofNat j = x := fun q => e (by have : (Int32.ofNat j).toInt = j := Int32.toInt_ofNat_small (by omega); rw [q, hx] at this; omega)
      by_cases hm : Int32.ofNat j ∈ xs
      · rw [if_pos hm, if_pos (List.mem_append_left _ hm)]
      · rw [if_neg hm, if_neg (fun q => (List.mem_append.mp q).elim hm (fun z => ne (List.mem_singleton.mp z)))]
  · rcases List.mem_append.mp hy with q | q
    · exact h4 y q
    · rw [List.mem_singleton.mp q]; exact ⟨k, hx, hk⟩
theorem own_mem {nf : Nat → Int32} {x : Int32} {n k : Nat} {xs : List Int32} (hx : x.toInt = k) (hk : k < n) (h3 : ∀ j, j < n → nf j = if Int32.ofNat j ∈ xs then 1 else 0) (q : ¬ nf k = 0) : x ∈ xs := by
  rw [h3 k hk, own_ofNat hx] at q
  by_cases hm : x ∈ xs
  · exact hm
  · rw [if_neg hm] at q; exact absurd rfl q
theorem own_nmem {nf : Nat → Int32} {x : Int32} {n k : Nat} {xs : List Int32} (hx : x.toInt = k) (hk : k < n) (h3 : ∀ j, j < n → nf j = if Int32.ofNat j ∈ xs then 1 else 0) (q : nf k = 0) : x ∉ xs := by
  intro hm; rw [h3 k hk, own_ofNat hx, if_pos hm] at q; exact absurd q (by decide)
theorem own_drop {xs : List Int32} {j : Nat} (hj : j < xs.length) : xs.drop j = xs.getD j 0 :: xs.drop (j + 1) := by
  rw [List.drop_eq_getElem_cons hj, List.getD_eq_getElem?_getD, List.getElem?_eq_getElem hj]; rfl
theorem own_gm {xs : List Int32} {j : Nat} (hj : j < xs.length) : xs.getD j 0 ∈ xs := by
  rw [List.getD_eq_getElem?_getD, List.getElem?_eq_getElem hj]; exact List.getElem_mem hj
theorem own_m4 (x : Int32) : ∃ k : Nat, (x &&& (3 : Int32)).toInt = k ∧ k < 4 := by
  have := c_mask x 3 2 (by decide) rfl
  exact ⟨((x &&& (3 : Int32)).toInt).toNat, by omega, by omega⟩
theorem own_m3 {x y : Int32} (hy : ((x.toUInt32 >>> ((2 : Int32) &&& 31).toUInt32).toInt32) % (3 : Int32) = y) : y = 0 ∨ y = 1 ∨ y = 2 := by
  have h := c_iushr x 2 2 rfl (by decide)
  have h1 := (c_irem ((x.toUInt32 >>> ((2 : Int32) &&& 31).toUInt32).toInt32) 3 3 rfl).1 (by omega)
  rw [hy] at h1
  simp only [← Int32.toInt_inj, show (0 : Int32).toInt = 0 from rfl, show (1 : Int32).toInt = 1 from rfl, show (2 : Int32).toInt = 2 from rfl]
  omega
theorem own_len {x : Int32} {xs : List Int32} : (xs ++ [x]).length = xs.length + 1 := by rw [List.length_append, List.length_singleton]
theorem pn_0 : plainName "com/example/tempora/tempora/NotedPoints" = true := by first | (simp [plainName, overriddenIn]; done) | decide +kernel
theorem ef_1 (m : MethodId) (x0 : Addr) (x1 : Int32) : entryFrame m #[(.ref x0), (.int x1)] 2 = mkF m 0 #[.val (.ref x0), .val (.int x1)] [] := by first | (simp [entryFrame, mkF, argsToLocals, Value.category]; done) | rfl
theorem d1_0 : decode prog_16_method_1_code 0 = .ok (.aload_n 0, 1) := by decide +kernel
theorem d1_1 : decode prog_16_method_1_code 1 = .ok (.invokespecial 1, 3) := by decide +kernel
theorem d1_4 : decode prog_16_method_1_code 4 = .ok (.aload_n 0, 1) := by decide +kernel
theorem d1_5 : decode prog_16_method_1_code 5 = .ok (.iload_n 1, 1) := by decide +kernel
theorem d1_6 : decode prog_16_method_1_code 6 = .ok (.newarray .int, 2) := by decide +kernel
theorem d1_8 : decode prog_16_method_1_code 8 = .ok (.putfield 7, 3) := by decide +kernel
theorem d1_11 : decode prog_16_method_1_code 11 = .ok (.aload_n 0, 1) := by decide +kernel
theorem d1_12 : decode prog_16_method_1_code 12 = .ok (.iload_n 1, 1) := by decide +kernel
theorem d1_13 : decode prog_16_method_1_code 13 = .ok (.newarray .boolean, 2) := by decide +kernel
theorem d1_15 : decode prog_16_method_1_code 15 = .ok (.putfield 13, 3) := by decide +kernel
theorem d1_18 : decode prog_16_method_1_code 18 = .ok (.return_, 1) := by decide +kernel
def Q1 (Z : State) (ao : Addr) (xz : Int32) (n : Nat) (u1 : Value) (u2 : Value) (h0 : Heap) (n0 : Nat) (v : Option Value) (h : Heap) (L : List Loc) : Prop := v = none ∧ Fr n0 L ∧ Keep h0 h [ao] ∧ ∃ ap an : Addr, h0.size ≤ ap ∧ h0.size ≤ an ∧ ap ≠ an ∧ ao ≠ ap ∧ ao ≠ an ∧ own_NP Z h ao ap an n []
set_option maxRecDepth 65536 in
set_option maxHeartbeats 40000000 in
theorem rm1 (l : Launch) (Z : State) (a0 : Array Value) (hw : ∀ d ∈ tables_1, d.before a0 Z = true) (ws : List Jvm.Cond) (ao : Addr) (xz : Int32) (n : Nat) (u1 : Value) (u2 : Value) (h0 : Heap) (n0 : Nat) (Z0 : n0 ≤ h0.size) (hz : xz.toInt = n) (hc : n ≤ 4) (E1 : Exa Z h0 ao "com/example/tempora/tempora/NotedPoints") (F1 : Fld Z h0 ao "com/example/tempora/tempora/NotedPoints" "points" "[I" u1) (F2 : Fld Z h0 ao "com/example/tempora/tempora/NotedPoints" "noted" "[Z" u2) (F3 : Fld Z h0 ao "com/example/tempora/tempora/NotedPoints" "count" "I" (.int 0)) (g1 : n0 ≤ ao) :
    MetFree l (⟨"com/example/tempora/tempora/NotedPoints", "<init>", "(I)V"⟩ : MethodName) (head1 (Jvm.Cond.code (⟨"com/example/tempora/tempora/NotedPoints", "<init>", "(I)V"⟩ : MethodName) prog_16_method_1_code 2 none :: ws) ({ frames := 1, cells := 2, slots := 8, locals := 12 } : Room)) (fun a U => a = #[(.ref ao), (.int xz)] ∧ Z.Warmed39 U.vm ∧ U.heap = h0) (fun _ _ _ _ _ => True) (fun _ U o U' => ∃ v L, o = .returned v ∧ Q1 Z ao xz n u1 u2 h0 n0 v U'.heap L ∧ FrameEnd U o U' L ({ frames := 1, cells := 2, slots := 8, locals := 12 } : Room).cells ({ frames := 1, cells := 2, slots := 8, locals := 12 } : Room).slots) := by
  refine MetFree.of_bodySF (plainFor_of_name pn_0) hisR ?_
  intro p e s m args below meth c s₁ Bd hml0 hP hK
  obtain ⟨rfl, hZ, hh⟩ := hP
  have hx := Bd.exec
  have hby := Bd.bytes
  have hml : c.maxLocals = 2 := hml0
  have hown : s.vm.findClass "com/example/tempora/tempora/NotedPoints" = some m.cls := findClass_of_methodNamed Bd.named
  have hnm := (name_of_methodNamed Bd.named Bd.method).1
  have hlk : meth.locks = false := BodyLoose.notSynchronized Bd
  have X0 : Stand p l e ({ frames := 1, cells := 2, slots := 8, locals := 12 } : Room) s m #[(.ref ao), (.int xz)] below meth c s₁ [] 0 0 := Stand.of_body Bd
  have e0 : s₁.heap = h0 := by rw [← hh, Bd.state]; rfl
  have N0 := Fr.nil n0
  show W.Gl p e below s (Q1 Z ao xz n u1 u2 h0 n0) ({ frames := 1, cells := 2, slots := 8, locals := 12 } : Room).cells ({ frames := 1, cells := 2, slots := 8, locals := 12 } : Room).slots s₁ (entryFrame m #[(.ref ao), (.int xz)] 2)
  refine W.cast (ef_1 m ao xz) ?_
  have K0 : Keep h0 h0 [ao] := Keep.refl h0 [ao]
  refine W.s1 (mkF m 1 #[.val (.ref ao), .val (.int xz)] [(.ref ao)]) (fun _ kx_ => XS.aloadN X0.here hx rfl (hb hby d1_0) rfl rfl kx_) ?_
  obtain ⟨T101, X101, e101, st101⟩ := initO X0 hx hZ hown (hw _ (List.mem_of_getElem? (i := 6) rfl)) (hw _ (List.mem_of_getElem? (i := 7) rfl)) (hw _ (List.mem_of_getElem? (i := 8) rfl)) e0 (g := (mkF m 1 #[.val (.ref ao), .val (.int xz)] [(.ref ao)])) rfl (by rw [hml]; rfl) rfl (hb hby d1_1) (by decide) (W := 0) (by show 2 * 0 + _ ≤ _; exact Nat.le_of_eq rfl) (by decide)
  refine W.s2 (mkF m 4 #[.val (.ref ao), .val (.int xz)] []) st101 ?_
  refine W.s1 (mkF m 5 #[.val (.ref ao), .val (.int xz)] [(.ref ao)]) (fun _ kx_ => XS.aloadN X101.here hx rfl (hb hby d1_4) rfl rfl kx_) ?_
  refine W.s1 (mkF m 6 #[.val (.ref ao), .val (.int xz)] [(.int xz), (.ref ao)]) (fun _ kx_ => XS.iloadN X101.here hx rfl (hb hby d1_5) rfl kx_) ?_
  refine W.newi X101 hx hZ (ty := .int) (aty := .int) (hw _ (List.mem_of_getElem? (i := 9) rfl)) rfl rfl e101 (hb hby d1_6) (n := n) hz (cap := 4) hc (by decide) (by decide) (by decide) (pc' := 8) rfl (fun T102 h102 ap X102 e102 E102 g102 A102 => ?_)
  have ne103 : ao ≠ ap := Nat.ne_of_lt (Nat.lt_of_lt_of_le E1.lt (Nat.le_of_eq g102.symm))
  have ge102 : n0 ≤ ap := Nat.le_trans Z0 (Nat.le_of_eq g102.symm)
  have sz102 : h0.size ≤ ap := Nat.le_trans K0.1 (Nat.le_of_eq g102.symm)
  have Z102 : n0 ≤ h102.size := Nat.le_trans Z0 E102.1
  have K102 : Keep h0 h102 [ao] := K0.ext E102
  have f104 := E1.ext E102
  have f105 := F1.ext E102
  have f106 := F2.ext E102
  have f107 := F3.ext E102
  refine W.putf X102 hx hZ hown (host := "") (Or.inl (hw _ (List.mem_of_getElem? (i := 10) rfl))) Via.refl e102 f105 f104 (Or.inr ⟨(hw _ (List.mem_of_getElem? (i := 11) rfl)), rfl, hnm⟩) (hw _ (List.mem_of_getElem? (i := 1) rfl)) (ty := (.array .int)) (by decide) rfl rfl N0 g1 (hb hby d1_8) (pc' := 11) rfl (fun T108 h108 L108 X108 e108 W108 fw108 N108 => ?_)
  have Z108 : n0 ≤ h108.size := Nat.le_trans Z102 (Keep.of_wr W108).1
  have f109 := f104.wr W108
  have f110 := f106.other W108 (Or.inr (slot_ne (Or.inr (hw _ (List.mem_of_getElem? (i := 14) rfl))) (Or.inr (hw _ (List.mem_of_getElem? (i := 11) rfl))) (by decide) (t := (.array .boolean)) (t' := (.array .int)) (by decide) (by decide)))
  have f111 := f107.other W108 (Or.inr (slot_ne (Or.inl (hw _ (List.mem_of_getElem? (i := 21) rfl))) (Or.inr (hw _ (List.mem_of_getElem? (i := 11) rfl))) (by decide) (t := .int) (t' := (.array .int)) (by decide) (by decide)))
  have f112 := A102.other W108 (Ne.symm ne103)
  have K108 : Keep h0 h108 [ao] := K102.wr W108 (Or.inl (List.mem_of_getElem? (i := 0) rfl))
  refine W.s1 (mkF m 12 #[.val (.ref ao), .val (.int xz)] [(.ref ao)]) (fun _ kx_ => XS.aloadN X108.here hx rfl (hb hby d1_11) rfl rfl kx_) ?_
  refine W.s1 (mkF m 13 #[.val (.ref ao), .val (.int xz)] [(.int xz), (.ref ao)]) (fun _ kx_ => XS.iloadN X108.here hx rfl (hb hby d1_12) rfl kx_) ?_
  refine W.newi X108 hx hZ (ty := .boolean) (aty := .boolean) (hw _ (List.mem_of_getElem? (i := 12) rfl)) rfl rfl e108 (hb hby d1_13) (n := n) hz (cap := 4) hc (by decide) (by decide) (by decide) (pc' := 15) rfl (fun T113 h113 an X113 e113 E113 g113 A113 => ?_)
  have ne114 : ao ≠ an := Nat.ne_of_lt (Nat.lt_of_lt_of_le f109.lt (Nat.le_of_eq g113.symm))
  have ne115 : ap ≠ an := Nat.ne_of_lt (Nat.lt_of_lt_of_le f112.lt (Nat.le_of_eq g113.symm))
  have ge113 : n0 ≤ an := Nat.le_trans Z108 (Nat.le_of_eq g113.symm)
  have sz113 : h0.size ≤ an := Nat.le_trans K108.1 (Nat.le_of_eq g113.symm)
  have Z113 : n0 ≤ h113.size := Nat.le_trans Z108 E113.1
  have K113 : Keep h0 h113 [ao] := K108.ext E113
  have f116 := f109.ext E113
  have f117 := fw108.ext E113
  have f118 := f110.ext E113
  have f119 := f111.ext E113
  have f120 := f112.ext E113
  refine W.putf X113 hx hZ hown (host := "") (Or.inl (hw _ (List.mem_of_getElem? (i := 13) rfl))) Via.refl e113 f118 f116 (Or.inr ⟨(hw _ (List.mem_of_getElem? (i := 14) rfl)), rfl, hnm⟩) (hw _ (List.mem_of_getElem? (i := 1) rfl)) (ty := (.array .boolean)) (by decide) rfl rfl N108 g1 (hb hby d1_15) (pc' := 18) rfl (fun T121 h121 L121 X121 e121 W121 fw121 N121 => ?_)
  have Z121 : n0 ≤ h121.size := Nat.le_trans Z113 (Keep.of_wr W121).1
  have f122 := f116.wr W121
  have f123 := f117.other W121 (Or.inr (slot_ne (Or.inr (hw _ (List.mem_of_getElem? (i := 11) rfl))) (Or.inr (hw _ (List.mem_of_getElem? (i := 14) rfl))) (by decide) (t := (.array .int)) (t' := (.array .boolean)) (by decide) (by decide)))
  have f124 := f119.other W121 (Or.inr (slot_ne (Or.inl (hw _ (List.mem_of_getElem? (i := 21) rfl))) (Or.inr (hw _ (List.mem_of_getElem? (i := 14) rfl))) (by decide) (t := .int) (t' := (.array .boolean)) (by decide) (by decide)))
  have f125 := f120.other W121 (Ne.symm ne103)
  have f126 := A113.other W121 (Ne.symm ne114)
  have K121 : Keep h0 h121 [ao] := K113.wr W121 (Or.inl (List.mem_of_getElem? (i := 0) rfl))
  exact W.ret0 X121 hx hlk Bd.returns (hb hby d1_18) (by show Q1 Z ao xz n u1 u2 h0 n0 _ T121.heap _; rw [e121]; exact ⟨rfl, N121, K121, ap, an, sz102, sz113, ne115, ne103, ne114, ⟨_, _, _, f122, f123, fw121, f124, f125, f126, trivial, rfl, fun i hi => absurd hi (Nat.not_lt_zero i), fun j hj => by rw [if_neg List.not_mem_nil], fun x hx => absurd hx List.not_mem_nil⟩⟩) (by decide) (by decide)
theorem ef_3 (m : MethodId) (x0 : Addr) (x1 : Int32) : entryFrame m #[(.ref x0), (.int x1)] 2 = mkF m 0 #[.val (.ref x0), .val (.int x1)] [] := by first | (simp [entryFrame, mkF, argsToLocals, Value.category]; done) | rfl
theorem d3_0 : decode prog_16_method_2_code 0 = .ok (.aload_n 0, 1) := by decide +kernel
theorem d3_1 : decode prog_16_method_2_code 1 = .ok (.getfield 13, 3) := by decide +kernel
theorem d3_4 : decode prog_16_method_2_code 4 = .ok (.iload_n 1, 1) := by decide +kernel
theorem d3_5 : decode prog_16_method_2_code 5 = .ok (.baload, 1) := by decide +kernel
theorem d3_6 : decode prog_16_method_2_code 6 = .ok (.ifCond .ne 27, 3) := by decide +kernel
theorem d3_33 : decode prog_16_method_2_code 33 = .ok (.return_, 1) := by decide +kernel
theorem d3_9 : decode prog_16_method_2_code 9 = .ok (.aload_n 0, 1) := by decide +kernel
theorem d3_10 : decode prog_16_method_2_code 10 = .ok (.getfield 13, 3) := by decide +kernel
theorem d3_13 : decode prog_16_method_2_code 13 = .ok (.iload_n 1, 1) := by decide +kernel
theorem d3_14 : decode prog_16_method_2_code 14 = .ok (.iconst 1, 1) := by decide +kernel
theorem d3_15 : decode prog_16_method_2_code 15 = .ok (.bastore, 1) := by decide +kernel
theorem d3_16 : decode prog_16_method_2_code 16 = .ok (.aload_n 0, 1) := by decide +kernel
theorem d3_17 : decode prog_16_method_2_code 17 = .ok (.getfield 7, 3) := by decide +kernel
theorem d3_20 : decode prog_16_method_2_code 20 = .ok (.aload_n 0, 1) := by decide +kernel
theorem d3_21 : decode prog_16_method_2_code 21 = .ok (.dup, 1) := by decide +kernel
theorem d3_22 : decode prog_16_method_2_code 22 = .ok (.getfield 17, 3) := by decide +kernel
theorem d3_25 : decode prog_16_method_2_code 25 = .ok (.dup_x1, 1) := by decide +kernel
theorem d3_26 : decode prog_16_method_2_code 26 = .ok (.iconst 1, 1) := by decide +kernel
theorem d3_27 : decode prog_16_method_2_code 27 = .ok (.iadd, 1) := by decide +kernel
theorem d3_28 : decode prog_16_method_2_code 28 = .ok (.putfield 17, 3) := by decide +kernel
theorem d3_31 : decode prog_16_method_2_code 31 = .ok (.iload_n 1, 1) := by decide +kernel
theorem d3_32 : decode prog_16_method_2_code 32 = .ok (.iastore, 1) := by decide +kernel
def Q3 (Z : State) (ao : Addr) (xp : Int32) (ap : Addr) (an : Addr) (n : Nat) (xz : Int32) (xs : List Int32) (k : Nat) (h0 : Heap) (n0 : Nat) (v : Option Value) (h : Heap) (L : List Loc) : Prop := v = none ∧ Fr n0 L ∧ Keep h0 h [ao, ap, an] ∧ ((xp ∈ xs ∧ own_NP Z h ao ap an n xs) ∨ (xp ∉ xs ∧ own_NP Z h ao ap an n (xs ++ [xp])))
set_option maxRecDepth 65536 in
set_option maxHeartbeats 40000000 in
theorem rm3 (l : Launch) (Z : State) (a0 : Array Value) (hw : ∀ d ∈ tables_1, d.before a0 Z = true) (ws : List Jvm.Cond) (ao : Addr) (xp : Int32) (ap : Addr) (an : Addr) (n : Nat) (xz : Int32) (xs : List Int32) (k : Nat) (h0 : Heap) (n0 : Nat) (Z0 : n0 ≤ h0.size) (hz : xz.toInt = n) (hn : n ≤ 8) (H0 : own_NP Z h0 ao ap an n xs) (hk : xp.toInt = k) (hkl : k < n) (hr : xp ∈ xs ∨ xs.length < n) (ne1 : ao ≠ ap) (ne2 : ao ≠ an) (ne3 : ap ≠ an) (g1 : n0 ≤ ao) (g2 : n0 ≤ ap) (g3 : n0 ≤ an) :
    MetFree l (⟨"com/example/tempora/tempora/NotedPoints", "note", "(I)V"⟩ : MethodName) (head1 (Jvm.Cond.code (⟨"com/example/tempora/tempora/NotedPoints", "note", "(I)V"⟩ : MethodName) prog_16_method_2_code 2 none :: ws) ({ frames := 0, cells := 0, slots := 0, locals := 0 } : Room)) (fun a U => a = #[(.ref ao), (.int xp)] ∧ Z.Warmed39 U.vm ∧ U.heap = h0) (fun _ _ _ _ _ => True) (fun _ U o U' => ∃ v L, o = .returned v ∧ Q3 Z ao xp ap an n xz xs k h0 n0 v U'.heap L ∧ FrameEnd U o U' L ({ frames := 0, cells := 0, slots := 0, locals := 0 } : Room).cells ({ frames := 0, cells := 0, slots := 0, locals := 0 } : Room).slots) := by
  refine MetFree.of_bodySF (plainFor_of_name pn_0) hisR ?_
  intro p e s m args below meth c s₁ Bd hml0 hP hK
  obtain ⟨rfl, hZ, hh⟩ := hP
  have hx := Bd.exec
  have hby := Bd.bytes
  have hml : c.maxLocals = 2 := hml0
  have hown : s.vm.findClass "com/example/tempora/tempora/NotedPoints" = some m.cls := findClass_of_methodNamed Bd.named
  have hnm := (name_of_methodNamed Bd.named Bd.method).1
  have hlk : meth.locks = false := BodyLoose.notSynchronized Bd
  have X0 : Stand p l e ({ frames := 0, cells := 0, slots := 0, locals := 0 } : Room) s m #[(.ref ao), (.int xp)] below meth c s₁ [] 0 0 := Stand.of_body Bd
  have e0 : s₁.heap = h0 := by rw [← hh, Bd.state]; rfl
  have N0 := Fr.nil n0
  show W.Gl p e below s (Q3 Z ao xp ap an n xz xs k h0 n0) ({ frames := 0, cells := 0, slots := 0, locals := 0 } : Room).cells ({ frames := 0, cells := 0, slots := 0, locals := 0 } : Room).slots s₁ (entryFrame m #[(.ref ao), (.int xp)] 2)
  refine W.cast (ef_3 m ao xp) ?_
  have K0 : Keep h0 h0 [ao, ap, an] := Keep.refl h0 [ao, ap, an]
  have H0' := H0
  obtain ⟨pf, nf, ct, E1, F1, F2, F3, A1, A2, _, h1, h2, h3, h4⟩ := H0
  refine W.s1 (mkF m 1 #[.val (.ref ao), .val (.int xp)] [(.ref ao)]) (fun _ kx_ => XS.aloadN X0.here hx rfl (hb hby d3_0) rfl rfl kx_) ?_
  refine W.getf X0 hx hZ hown (host := "") (Or.inl (hw _ (List.mem_of_getElem? (i := 13) rfl))) Via.refl e0 F2 (hb hby d3_1) (pc' := 4) rfl (fun T101 X101 e101 => ?_)
  refine W.s1 (mkF m 5 #[.val (.ref ao), .val (.int xp)] [(.int xp), (.ref an)]) (fun _ kx_ => XS.iloadN X101.here hx rfl (hb hby d3_4) rfl kx_) ?_
  refine W.ldz X101 hx hZ e101 A2 k hk hkl (hb hby d3_5) (pc' := 6) rfl ?_
  refine W.ifc X101 hx (hb hby d3_6) (pc' := 33) (pc'' := 9) (by decide) (by decide) rfl (fun (c6 : ¬ (nf k) = (0 : Int32)) => ?_) (fun (c6 : (nf k) = (0 : Int32)) => ?_)
  · exact W.ret0 X101 hx hlk Bd.returns (hb hby d3_33) (by show Q3 Z ao xp ap an n xz xs k h0 n0 _ T101.heap _; rw [e101]; exact ⟨rfl, N0, K0, Or.inl ⟨own_mem hk hkl h3 c6, H0'⟩⟩) (by decide) (by decide)
  · have hnm : xp ∉ xs := own_nmem hk hkl h3 c6
    have hl : xs.length < n := hr.resolve_left hnm
    obtain ⟨j1, j2, j3, j4⟩ := own_add hk hkl h1 hl hn h2 h3 h4
    refine W.s1 (mkF m 10 #[.val (.ref ao), .val (.int xp)] [(.ref ao)]) (fun _ kx_ => XS.aloadN X101.here hx rfl (hb hby d3_9) rfl rfl kx_) ?_
    refine W.getf X101 hx hZ hown (host := "") (Or.inl (hw _ (List.mem_of_getElem? (i := 13) rfl))) Via.refl e101 F2 (hb hby d3_10) (pc' := 13) rfl (fun T102 X102 e102 => ?_)
    refine W.s1 (mkF m 14 #[.val (.ref ao), .val (.int xp)] [(.int xp), (.ref an)]) (fun _ kx_ => XS.iloadN X102.here hx rfl (hb hby d3_13) rfl kx_) ?_
    refine W.s1 (mkF m 15 #[.val (.ref ao), .val (.int xp)] [(.int (1 : Int32)), (.int xp), (.ref an)]) (fun _ kx_ => XS.iconst X102.here hx rfl (hb hby d3_14) kx_) ?_
    refine W.stz X102 hx hZ e102 A2 (x' := (1 : Int32)) rfl k hk hkl N0 g3 (hb hby d3_15) (pc' := 16) rfl (fun T103 h103 L103 X103 e103 W103 fw103 N103 => ?_)
    have Z103 : n0 ≤ h103.size := Nat.le_trans Z0 (Keep.of_wr W103).1
    have f104 := E1.wr W103
    have f105 := F1.other W103 (Or.inl ne2)
    have f106 := F2.other W103 (Or.inl ne2)
    have f107 := F3.other W103 (Or.inl ne2)
    have f108 := A1.other W103 ne3
    have K103 : Keep h0 h103 [ao, ap, an] := K0.wr W103 (Or.inl (List.mem_of_getElem? (i := 2) rfl))
    refine W.s1 (mkF m 17 #[.val (.ref ao), .val (.int xp)] [(.ref ao)]) (fun _ kx_ => XS.aloadN X103.here hx rfl (hb hby d3_16) rfl rfl kx_) ?_
    refine W.getf X103 hx hZ hown (host := "") (Or.inl (hw _ (List.mem_of_getElem? (i := 10) rfl))) Via.refl e103 f105 (hb hby d3_17) (pc' := 20) rfl (fun T109 X109 e109 => ?_)
    refine W.s1 (mkF m 21 #[.val (.ref ao), .val (.int xp)] [(.ref ao), (.ref ap)]) (fun _ kx_ => XS.aloadN X109.here hx rfl (hb hby d3_20) rfl rfl kx_) ?_
    refine W.s1 (mkF m 22 #[.val (.ref ao), .val (.int xp)] [(.ref ao), (.ref ao), (.ref ap)]) (fun _ kx_ => XS.dup X109.here hx rfl (hb hby d3_21) rfl rfl kx_) ?_
    refine W.getf X109 hx hZ hown (host := "") (Or.inl (hw _ (List.mem_of_getElem? (i := 20) rfl))) Via.refl e109 f107 (hb hby d3_22) (pc' := 25) rfl (fun T110 X110 e110 => ?_)
    refine W.s1 (mkF m 26 #[.val (.ref ao), .val (.int xp)] [(.int ct), (.ref ao), (.int ct), (.ref ap)]) (fun _ kx_ => XS.dupX1 X110.here hx rfl (hb hby d3_25) rfl rfl rfl kx_) ?_
    refine W.s1 (mkF m 27 #[.val (.ref ao), .val (.int xp)] [(.int (1 : Int32)), (.int ct), (.ref ao), (.int ct), (.ref ap)]) (fun _ kx_ => XS.iconst X110.here hx rfl (hb hby d3_26) kx_) ?_
    refine W.s1 (mkF m 28 #[.val (.ref ao), .val (.int xp)] [(.int (ct + (1 : Int32))), (.ref ao), (.int ct), (.ref ap)]) (fun _ kx_ => XS.iadd X110.here hx rfl (hb hby d3_27) rfl kx_) ?_
    refine W.putf X110 hx hZ hown (host := "") (Or.inl (hw _ (List.mem_of_getElem? (i := 20) rfl))) Via.refl e110 f107 f104 (Or.inl (hw _ (List.mem_of_getElem? (i := 21) rfl))) (hw _ (List.mem_of_getElem? (i := 1) rfl)) (ty := .int) (by decide) rfl rfl N103 g1 (hb hby d3_28) (pc' := 31) rfl (fun T111 h111 L111 X111 e111 W111 fw111 N111 => ?_)
    have Z111 : n0 ≤ h111.size := Nat.le_trans Z103 (Keep.of_wr W111).1
    have f112 := f104.wr W111
    have f113 := f105.other W111 (Or.inr (slot_ne (Or.inr (hw _ (List.mem_of_getElem? (i := 11) rfl))) (Or.inl (hw _ (List.mem_of_getElem? (i := 21) rfl))) (by decide) (t := (.array .int)) (t' := .int) (by decide) (by decide)))
    have f114 := f106.other W111 (Or.inr (slot_ne (Or.inr (hw _ (List.mem_of_getElem? (i := 14) rfl))) (Or.inl (hw _ (List.mem_of_getElem? (i := 21) rfl))) (by decide) (t := (.array .boolean)) (t' := .int) (by decide) (by decide)))
    have f115 := f108.other W111 (Ne.symm ne1)
    have f116 := fw103.other W111 (Ne.symm ne2)
    have K111 : Keep h0 h111 [ao, ap, an] := K103.wr W111 (Or.inl (List.mem_of_getElem? (i := 0) rfl))
    refine W.s1 (mkF m 32 #[.val (.ref ao), .val (.int xp)] [(.int xp), (.int ct), (.ref ap)]) (fun _ kx_ => XS.iloadN X111.here hx rfl (hb hby d3_31) rfl kx_) ?_
    refine W.sti X111 hx hZ e111 f115 xs.length h1 hl N111 g2 (hb hby d3_32) (pc' := 33) rfl (fun T117 h117 L117 X117 e117 W117 fw117 N117 => ?_)
    have Z117 : n0 ≤ h117.size := Nat.le_trans Z111 (Keep.of_wr W117).1
    have f118 := f112.wr W117
    have f119 := f113.other W117 (Or.inl ne1)
    have f120 := f114.other W117 (Or.inl ne1)
    have f121 := fw111.other W117 (Or.inl ne1)
    have f122 := f116.other W117 (Ne.symm ne3)
    have K117 : Keep h0 h117 [ao, ap, an] := K111.wr W117 (Or.inl (List.mem_of_getElem? (i := 1) rfl))
    exact W.ret0 X117 hx hlk Bd.returns (hb hby d3_33) (by show Q3 Z ao xp ap an n xz xs k h0 n0 _ T117.heap _; rw [e117]; exact ⟨rfl, N117, K117, Or.inr ⟨hnm, ⟨_, _, _, f118, f119, f120, f121, fw117, f122, trivial, j1, j2, j3, j4⟩⟩⟩) (by decide) (by decide)
theorem ef_4 (m : MethodId) (x0 : Addr) : entryFrame m #[(.ref x0)] 2 = mkF m 0 #[.val (.ref x0), .unset] [] := by first | (simp [entryFrame, mkF, argsToLocals, Value.category]; done) | rfl
theorem d4_0 : decode prog_16_method_4_code 0 = .ok (.iconst 0, 1) := by decide +kernel
theorem d4_1 : decode prog_16_method_4_code 1 = .ok (.istore_n 1, 1) := by decide +kernel
theorem d4_2 : decode prog_16_method_4_code 2 = .ok (.iload_n 1, 1) := by decide +kernel
theorem d4_3 : decode prog_16_method_4_code 3 = .ok (.aload_n 0, 1) := by decide +kernel
theorem d4_4 : decode prog_16_method_4_code 4 = .ok (.getfield 17, 3) := by decide +kernel
theorem d4_7 : decode prog_16_method_4_code 7 = .ok (.if_icmp .ge 21, 3) := by decide +kernel
theorem d4_28 : decode prog_16_method_4_code 28 = .ok (.aload_n 0, 1) := by decide +kernel
theorem d4_29 : decode prog_16_method_4_code 29 = .ok (.iconst 0, 1) := by decide +kernel
theorem d4_30 : decode prog_16_method_4_code 30 = .ok (.putfield 17, 3) := by decide +kernel
theorem d4_33 : decode prog_16_method_4_code 33 = .ok (.return_, 1) := by decide +kernel
theorem d4_10 : decode prog_16_method_4_code 10 = .ok (.aload_n 0, 1) := by decide +kernel
theorem d4_11 : decode prog_16_method_4_code 11 = .ok (.getfield 13, 3) := by decide +kernel
theorem d4_14 : decode prog_16_method_4_code 14 = .ok (.aload_n 0, 1) := by decide +kernel
theorem d4_15 : decode prog_16_method_4_code 15 = .ok (.getfield 7, 3) := by decide +kernel
theorem d4_18 : decode prog_16_method_4_code 18 = .ok (.iload_n 1, 1) := by decide +kernel
theorem d4_19 : decode prog_16_method_4_code 19 = .ok (.iaload, 1) := by decide +kernel
theorem d4_20 : decode prog_16_method_4_code 20 = .ok (.iconst 0, 1) := by decide +kernel
theorem d4_21 : decode prog_16_method_4_code 21 = .ok (.bastore, 1) := by decide +kernel
theorem d4_22 : decode prog_16_method_4_code 22 = .ok (.iinc 1 1, 3) := by decide +kernel
theorem d4_25 : decode prog_16_method_4_code 25 = .ok (.goto (-23), 3) := by decide +kernel
def Q4 (Z : State) (ao : Addr) (ap : Addr) (an : Addr) (n : Nat) (xz : Int32) (xs : List Int32) (h0 : Heap) (n0 : Nat) (v : Option Value) (h : Heap) (L : List Loc) : Prop := v = none ∧ Fr n0 L ∧ Keep h0 h [ao, ap, an] ∧ own_NP Z h ao ap an n []
set_option maxRecDepth 65536 in
set_option maxHeartbeats 40000000 in
theorem rm4 (l : Launch) (Z : State) (a0 : Array Value) (hw : ∀ d ∈ tables_1, d.before a0 Z = true) (ws : List Jvm.Cond) (ao : Addr) (ap : Addr) (an : Addr) (n : Nat) (xz : Int32) (xs : List Int32) (h0 : Heap) (n0 : Nat) (Z0 : n0 ≤ h0.size) (hz : xz.toInt = n) (hn : n ≤ 8) (H0 : own_NP Z h0 ao ap an n xs) (ne1 : ao ≠ ap) (ne2 : ao ≠ an) (ne3 : ap ≠ an) (g1 : n0 ≤ ao) (g2 : n0 ≤ ap) (g3 : n0 ≤ an) (hlen0 : ∀ {j : Nat}, j < xs.length → j < n) :
    MetFree l (⟨"com/example/tempora/tempora/NotedPoints", "clear", "()V"⟩ : MethodName) (head1 (Jvm.Cond.code (⟨"com/example/tempora/tempora/NotedPoints", "clear", "()V"⟩ : MethodName) prog_16_method_4_code 2 none :: ws) ({ frames := 0, cells := 0, slots := 0, locals := 0 } : Room)) (fun a U => a = #[(.ref ao)] ∧ Z.Warmed39 U.vm ∧ U.heap = h0) (fun _ _ _ _ _ => True) (fun _ U o U' => ∃ v L, o = .returned v ∧ Q4 Z ao ap an n xz xs h0 n0 v U'.heap L ∧ FrameEnd U o U' L ({ frames := 0, cells := 0, slots := 0, locals := 0 } : Room).cells ({ frames := 0, cells := 0, slots := 0, locals := 0 } : Room).slots) := by
  refine MetFree.of_bodySF (plainFor_of_name pn_0) hisR ?_
  intro p e s m args below meth c s₁ Bd hml0 hP hK
  obtain ⟨rfl, hZ, hh⟩ := hP
  have hx := Bd.exec
  have hby := Bd.bytes
  have hml : c.maxLocals = 2 := hml0
  have hown : s.vm.findClass "com/example/tempora/tempora/NotedPoints" = some m.cls := findClass_of_methodNamed Bd.named
  have hnm := (name_of_methodNamed Bd.named Bd.method).1
  have hlk : meth.locks = false := BodyLoose.notSynchronized Bd
  have X0 : Stand p l e ({ frames := 0, cells := 0, slots := 0, locals := 0 } : Room) s m #[(.ref ao)] below meth c s₁ [] 0 0 := Stand.of_body Bd
  have e0 : s₁.heap = h0 := by rw [← hh, Bd.state]; rfl
  have N0 := Fr.nil n0
  show W.Gl p e below s (Q4 Z ao ap an n xz xs h0 n0) ({ frames := 0, cells := 0, slots := 0, locals := 0 } : Room).cells ({ frames := 0, cells := 0, slots := 0, locals := 0 } : Room).slots s₁ (entryFrame m #[(.ref ao)] 2)
  refine W.cast (ef_4 m ao) ?_
  have K0 : Keep h0 h0 [ao, ap, an] := Keep.refl h0 [ao, ap, an]
  obtain ⟨pf, nf, ct, E1, F1, F2, F3, A1, A2, _, h1, h2, h3, h4⟩ := H0
  refine W.s1 (mkF m 1 #[.val (.ref ao), .unset] [(.int (0 : Int32))]) (fun _ kx_ => XS.iconst X0.here hx rfl (hb hby d4_0) kx_) ?_
  refine W.s1 (mkF m 2 #[.val (.ref ao), .val (.int (0 : Int32))] []) (fun _ kx_ => XS.istoreN X0.here hx rfl (hb hby d4_1) rfl (l' := #[.val (.ref ao), .val (.int (0 : Int32))]) rfl kx_) ?_
  have hlen : ∀ {j : Nat}, j < xs.length → j < n := hlen0
  have loop : ∀ (q j : Nat) (i : Int32) (T : State) (h : Heap) (Lc : List Loc) (ng : Nat → Int32), q + j = xs.length → i.toInt = j → Stand p l e ({ frames := 0, cells := 0, slots := 0, locals := 0 } : Room) s m #[(.ref ao)] below meth c T Lc 0 0 → T.heap = h → Fr n0 Lc → n0 ≤ h.size → Keep h0 h [ao, ap, an] → Exa Z h ao "com/example/tempora/tempora/NotedPoints" → Fld Z h ao "com/example/tempora/tempora/NotedPoints" "points" "[I" (.ref ap) → Fld Z h ao "com/example/tempora/tempora/NotedPoints" "noted" "[Z" (.ref an) → Fld Z h ao "com/example/tempora/tempora/NotedPoints" "count" "I" (.int ct) → W.AI Z h ap .int n pf → W.AI Z h an .boolean n ng → (∀ k, k < n → ¬ ng k = 0 → Int32.ofNat k ∈ xs.drop j) → W.Gl p e below s (Q4 Z ao ap an n xz xs h0 n0) ({ frames := 0, cells := 0, slots := 0, locals := 0 } : Room).cells ({ frames := 0, cells := 0, slots := 0, locals := 0 } : Room).slots T (mkF m 2 #[.val (.ref ao), .val (.int i)] []) := by
    intro q
    induction q with
    | zero =>
      intro j i T h Lc ng hq hi X e1 N Zh K E1 F1 F2 F3 A1 A2 hg
      refine W.s1 (mkF m 3 #[.val (.ref ao), .val (.int i)] [(.int i)]) (fun _ kx_ => XS.iloadN X.here hx rfl (hb hby d4_2) rfl kx_) ?_
      refine W.s1 (mkF m 4 #[.val (.ref ao), .val (.int i)] [(.ref ao), (.int i)]) (fun _ kx_ => XS.aloadN X.here hx rfl (hb hby d4_3) rfl rfl kx_) ?_
      refine W.getf X hx hZ hown (host := "") (Or.inl (hw _ (List.mem_of_getElem? (i := 20) rfl))) Via.refl e1 F3 (hb hby d4_4) (pc' := 7) rfl (fun T101 X101 e101 => ?_)
      refine W.icmp X101 hx (hb hby d4_7) (pc' := 28) (pc'' := 10) (by decide) (by decide) rfl (fun (c7 : ¬ i < ct) => ?_) (fun (c7 : i < ct) => ?_)
      · refine W.s1 (mkF m 29 #[.val (.ref ao), .val (.int i)] [(.ref ao)]) (fun _ kx_ => XS.aloadN X101.here hx rfl (hb hby d4_28) rfl rfl kx_) ?_
        refine W.s1 (mkF m 30 #[.val (.ref ao), .val (.int i)] [(.int (0 : Int32)), (.ref ao)]) (fun _ kx_ => XS.iconst X101.here hx rfl (hb hby d4_29) kx_) ?_
        refine W.putf X101 hx hZ hown (host := "") (Or.inl (hw _ (List.mem_of_getElem? (i := 20) rfl))) Via.refl e101 F3 E1 (Or.inl (hw _ (List.mem_of_getElem? (i := 21) rfl))) (hw _ (List.mem_of_getElem? (i := 1) rfl)) (ty := .int) (by decide) rfl rfl N g1 (hb hby d4_30) (pc' := 33) rfl (fun T102 h102 L102 X102 e102 W102 fw102 N102 => ?_)
        have Z102 : n0 ≤ h102.size := Nat.le_trans Zh (Keep.of_wr W102).1
        have f103 := E1.wr W102
        have f104 := F1.other W102 (Or.inr (slot_ne (Or.inr (hw _ (List.mem_of_getElem? (i := 11) rfl))) (Or.inl (hw _ (List.mem_of_getElem? (i := 21) rfl))) (by decide) (t := (.array .int)) (t' := .int) (by decide) (by decide)))
        have f105 := F2.other W102 (Or.inr (slot_ne (Or.inr (hw _ (List.mem_of_getElem? (i := 14) rfl))) (Or.inl (hw _ (List.mem_of_getElem? (i := 21) rfl))) (by decide) (t := (.array .boolean)) (t' := .int) (by decide) (by decide)))
        have f106 := A1.other W102 (Ne.symm ne1)
        have f107 := A2.other W102 (Ne.symm ne2)
        have K102 : Keep h0 h102 [ao, ap, an] := K.wr W102 (Or.inl (List.mem_of_getElem? (i := 0) rfl))
        exact W.ret0 X102 hx hlk Bd.returns (hb hby d4_33) (by show Q4 Z ao ap an n xz xs h0 n0 _ T102.heap _; rw [e102]; exact ⟨rfl, N102, K102, ⟨_, _, _, f103, f104, f105, fw102, f106, f107, trivial, rfl, fun i hi => absurd hi (Nat.not_lt_zero i), fun k hk => by rw [if_neg List.not_mem_nil]; by_cases z : ng k = 0; exact z; exact absurd (hg k hk z) (by rw [show j = xs.length by omega, List.drop_length]; exact List.not_mem_nil), fun x hx => absurd hx List.not_mem_nil⟩⟩) (by decide) (by decide)
      · exact absurd c7 (by rw [Int32.lt_iff_toInt_lt]; omega)
    | succ q ih =>
      intro j i T h Lc ng hq hi X e1 N Zh K E1 F1 F2 F3 A1 A2 hg
      refine W.s1 (mkF m 3 #[.val (.ref ao), .val (.int i)] [(.int i)]) (fun _ kx_ => XS.iloadN X.here hx rfl (hb hby d4_2) rfl kx_) ?_
      refine W.s1 (mkF m 4 #[.val (.ref ao), .val (.int i)] [(.ref ao), (.int i)]) (fun _ kx_ => XS.aloadN X.here hx rfl (hb hby d4_3) rfl rfl kx_) ?_
      refine W.getf X hx hZ hown (host := "") (Or.inl (hw _ (List.mem_of_getElem? (i := 20) rfl))) Via.refl e1 F3 (hb hby d4_4) (pc' := 7) rfl (fun T108 X108 e108 => ?_)
      refine W.icmp X108 hx (hb hby d4_7) (pc' := 28) (pc'' := 10) (by decide) (by decide) rfl (fun (c7 : ¬ i < ct) => ?_) (fun (c7 : i < ct) => ?_)
      · exact absurd c7 (by rw [Int32.lt_iff_toInt_lt]; omega)
      · refine W.s1 (mkF m 11 #[.val (.ref ao), .val (.int i)] [(.ref ao)]) (fun _ kx_ => XS.aloadN X108.here hx rfl (hb hby d4_10) rfl rfl kx_) ?_
        refine W.getf X108 hx hZ hown (host := "") (Or.inl (hw _ (List.mem_of_getElem? (i := 13) rfl))) Via.refl e108 F2 (hb hby d4_11) (pc' := 14) rfl (fun T109 X109 e109 => ?_)
        refine W.s1 (mkF m 15 #[.val (.ref ao), .val (.int i)] [(.ref ao), (.ref an)]) (fun _ kx_ => XS.aloadN X109.here hx rfl (hb hby d4_14) rfl rfl kx_) ?_
        refine W.getf X109 hx hZ hown (host := "") (Or.inl (hw _ (List.mem_of_getElem? (i := 10) rfl))) Via.refl e109 F1 (hb hby d4_15) (pc' := 18) rfl (fun T110 X110 e110 => ?_)
        refine W.s1 (mkF m 19 #[.val (.ref ao), .val (.int i)] [(.int i), (.ref ap), (.ref an)]) (fun _ kx_ => XS.iloadN X110.here hx rfl (hb hby d4_18) rfl kx_) ?_
        have hjl : j < xs.length := by omega
        obtain ⟨kx, hkx, hkxn⟩ : ∃ k : Nat, (pf j).toInt = k ∧ k < n := by rw [h2 j hjl]; exact h4 _ (own_gm hjl)
        refine W.ldi X110 hx hZ e110 A1 j hi (by rw [Int32.lt_iff_toInt_lt] at c7; exact hlen hjl) (hb hby d4_19) (pc' := 20) rfl ?_
        refine W.s1 (mkF m 21 #[.val (.ref ao), .val (.int i)] [(.int (0 : Int32)), (.int (pf j)), (.ref an)]) (fun _ kx_ => XS.iconst X110.here hx rfl (hb hby d4_20) kx_) ?_
        refine W.stz X110 hx hZ e110 A2 (x' := (0 : Int32)) rfl kx hkx hkxn N g3 (hb hby d4_21) (pc' := 22) rfl (fun T111 h111 L111 X111 e111 W111 fw111 N111 => ?_)
        have Z111 : n0 ≤ h111.size := Nat.le_trans Zh (Keep.of_wr W111).1
        have f112 := E1.wr W111
        have f113 := F1.other W111 (Or.inl ne2)
        have f114 := F2.other W111 (Or.inl ne2)
        have f115 := F3.other W111 (Or.inl ne2)
        have f116 := A1.other W111 ne3
        have K111 : Keep h0 h111 [ao, ap, an] := K.wr W111 (Or.inl (List.mem_of_getElem? (i := 2) rfl))
        refine W.s1 (mkF m 25 #[.val (.ref ao), .val (.int (i + (1 : Int32)))] []) (fun _ kx_ => XS.iinc X111.here hx rfl (hb hby d4_22) rfl (l' := #[.val (.ref ao), .val (.int (i + (1 : Int32)))]) rfl kx_) ?_
        refine W.s1 (mkF m 2 #[.val (.ref ao), .val (.int (i + (1 : Int32)))] []) (fun _ kx_ => XS.goto X111.here hx rfl (pc0 := 25) (pc' := 2) rfl (hb hby d4_25) (by decide) (by decide) kx_) ?_
        have hi' : (i + (1 : Int32)).toInt = ((j + 1 : Nat) : Int) := by have := c_iadd i 1; have := rng32 (i + (1 : Int32)); have := rng32 ct; have e1 : (1 : Int32).toInt = 1 := rfl; omega
        exact ih (j + 1) _ _ _ _ _ (by omega) hi' X111 e111 N111 Z111 K111 f112 f113 f114 f115 f116 fw111 (fun k hk hne => by
          by_cases ek : k = kx
          · rw [ek, W.up_same] at hne; exact absurd rfl hne
          · rw [W.up_other _ _ ek] at hne; have hm := hg k hk hne; rw [own_drop hjl] at hm
            rcases List.mem_cons.mp hm with z | z
            · exact absurd (by have e2 : (Int32.ofNat k).toInt = k := Int32.toInt_ofNat_small (by omega); rw [z, ← h2 j hjl, hkx] at e2; omega) ek
            · exact z)
  exact loop xs.length 0 _ _ _ _ _ (by omega) rfl X0 e0 N0 Z0 K0 E1 F1 F2 F3 A1 A2 (fun k hk hne => by rw [h3 k hk] at hne; by_cases hm : Int32.ofNat k ∈ xs; exact hm; rw [if_neg hm] at hne; exact absurd rfl hne)
theorem ef_7 (m : MethodId) (x0 : Int32) (x1 : Int32) : entryFrame m #[(.int x0), (.int x1)] 2 = mkF m 0 #[.val (.int x0), .val (.int x1)] [] := by first | (simp [entryFrame, mkF, argsToLocals, Value.category]; done) | rfl
theorem d7_0 : decode jdk_29_method_69_code 0 = .ok (.iload_n 0, 1) := by decide +kernel
theorem d7_1 : decode jdk_29_method_69_code 1 = .ok (.iload_n 1, 1) := by decide +kernel
theorem d7_2 : decode jdk_29_method_69_code 2 = .ok (.if_icmp .gt 7, 3) := by decide +kernel
theorem d7_9 : decode jdk_29_method_69_code 9 = .ok (.iload_n 1, 1) := by decide +kernel
theorem d7_10 : decode jdk_29_method_69_code 10 = .ok (.ireturn, 1) := by decide +kernel
theorem d7_5 : decode jdk_29_method_69_code 5 = .ok (.iload_n 0, 1) := by decide +kernel
theorem d7_6 : decode jdk_29_method_69_code 6 = .ok (.goto 4, 3) := by decide +kernel
def Q7 (Z : State) (xa : Int32) (xb : Int32) (h0 : Heap) (n0 : Nat) (v : Option Value) (h : Heap) (L : List Loc) : Prop := ∃ r : Int32, v = some (.int r) ∧ Fr n0 L ∧ h = h0 ∧ ((r = xa ∧ ¬ xb < xa) ∨ (r = xb ∧ xb < xa))
set_option maxRecDepth 65536 in
set_option maxHeartbeats 40000000 in
theorem rm7 (l : Launch) (Z : State) (a0 : Array Value) (hw : ∀ d ∈ tables_1, d.before a0 Z = true) (ws : List Jvm.Cond) (xa : Int32) (xb : Int32) (h0 : Heap) (n0 : Nat) (Z0 : n0 ≤ h0.size) :
    MetFree l (⟨"java/lang/Math", "min", "(II)I"⟩ : MethodName) (head1 (Jvm.Cond.code (⟨"java/lang/Math", "min", "(II)I"⟩ : MethodName) jdk_29_method_69_code 2 (some .int) :: ws) ({ frames := 0, cells := 0, slots := 0, locals := 0 } : Room)) (fun a U => a = #[(.int xa), (.int xb)] ∧ Z.Warmed39 U.vm ∧ U.heap = h0) (fun _ _ _ _ _ => True) (fun _ U o U' => ∃ v L, o = .returned v ∧ Q7 Z xa xb h0 n0 v U'.heap L ∧ FrameEnd U o U' L ({ frames := 0, cells := 0, slots := 0, locals := 0 } : Room).cells ({ frames := 0, cells := 0, slots := 0, locals := 0 } : Room).slots) := by
  refine MetFree.of_bodySF (Jvm.Free.JP.mathPlain rfl (by decide +kernel)) hisR ?_
  intro p e s m args below meth c s₁ Bd hml0 hP hK
  obtain ⟨rfl, hZ, hh⟩ := hP
  have hx := Bd.exec
  have hby := Bd.bytes
  have hml : c.maxLocals = 2 := hml0
  have hown : s.vm.findClass "java/lang/Math" = some m.cls := findClass_of_methodNamed Bd.named
  have hnm := (name_of_methodNamed Bd.named Bd.method).1
  have hlk : meth.locks = false := BodyLoose.notSynchronized Bd
  have X0 : Stand p l e ({ frames := 0, cells := 0, slots := 0, locals := 0 } : Room) s m #[(.int xa), (.int xb)] below meth c s₁ [] 0 0 := Stand.of_body Bd
  have e0 : s₁.heap = h0 := by rw [← hh, Bd.state]; rfl
  have N0 := Fr.nil n0
  show W.Gl p e below s (Q7 Z xa xb h0 n0) ({ frames := 0, cells := 0, slots := 0, locals := 0 } : Room).cells ({ frames := 0, cells := 0, slots := 0, locals := 0 } : Room).slots s₁ (entryFrame m #[(.int xa), (.int xb)] 2)
  refine W.cast (ef_7 m xa xb) ?_
  refine W.s1 (mkF m 1 #[.val (.int xa), .val (.int xb)] [(.int xa)]) (fun _ kx_ => XS.iloadN X0.here hx rfl (hb hby d7_0) rfl kx_) ?_
  refine W.s1 (mkF m 2 #[.val (.int xa), .val (.int xb)] [(.int xb), (.int xa)]) (fun _ kx_ => XS.iloadN X0.here hx rfl (hb hby d7_1) rfl kx_) ?_
  refine W.icmp X0 hx (hb hby d7_2) (pc' := 9) (pc'' := 5) (by decide) (by decide) rfl (fun (c2 : xb < xa) => ?_) (fun (c2 : ¬ xb < xa) => ?_)
  · refine W.s1 (mkF m 10 #[.val (.int xa), .val (.int xb)] [(.int xb)]) (fun _ kx_ => XS.iloadN X0.here hx rfl (hb hby d7_9) rfl kx_) ?_
    exact W.retI X0 hx hlk Bd.returns (hb hby d7_10) (by show Q7 Z xa xb h0 n0 _ s₁.heap _; rw [e0]; exact ⟨_, rfl, N0, rfl, Or.inr ⟨rfl, c2⟩⟩) (by decide) (by decide)
  · refine W.s1 (mkF m 6 #[.val (.int xa), .val (.int xb)] [(.int xa)]) (fun _ kx_ => XS.iloadN X0.here hx rfl (hb hby d7_5) rfl kx_) ?_
    refine W.s1 (mkF m 10 #[.val (.int xa), .val (.int xb)] [(.int xa)]) (fun _ kx_ => XS.goto X0.here hx rfl (pc0 := 6) (pc' := 10) rfl (hb hby d7_6) (by decide) (by decide) kx_) ?_
    exact W.retI X0 hx hlk Bd.returns (hb hby d7_10) (by show Q7 Z xa xb h0 n0 _ s₁.heap _; rw [e0]; exact ⟨_, rfl, N0, rfl, Or.inl ⟨rfl, c2⟩⟩) (by decide) (by decide)
theorem pn_1 : plainName "java/util/Arrays" = true := by first | (simp [plainName, overriddenIn]; done) | decide +kernel
theorem ef_6 (m : MethodId) (x0 : Addr) (x1 : Int32) : entryFrame m #[(.ref x0), (.int x1)] 3 = mkF m 0 #[.val (.ref x0), .val (.int x1), .unset] [] := by first | (simp [entryFrame, mkF, argsToLocals, Value.category]; done) | rfl
theorem d6_0 : decode jdk_65_method_123_code 0 = .ok (.iload_n 1, 1) := by decide +kernel
theorem d6_1 : decode jdk_65_method_123_code 1 = .ok (.aload_n 0, 1) := by decide +kernel
theorem d6_2 : decode jdk_65_method_123_code 2 = .ok (.arraylength, 1) := by decide +kernel
theorem d6_3 : decode jdk_65_method_123_code 3 = .ok (.if_icmp .ne 11, 3) := by decide +kernel
theorem d6_14 : decode jdk_65_method_123_code 14 = .ok (.iload_n 1, 1) := by decide +kernel
theorem d6_15 : decode jdk_65_method_123_code 15 = .ok (.newarray .int, 2) := by decide +kernel
theorem d6_17 : decode jdk_65_method_123_code 17 = .ok (.astore_n 2, 1) := by decide +kernel
theorem d6_18 : decode jdk_65_method_123_code 18 = .ok (.aload_n 0, 1) := by decide +kernel
theorem d6_19 : decode jdk_65_method_123_code 19 = .ok (.iconst 0, 1) := by decide +kernel
theorem d6_20 : decode jdk_65_method_123_code 20 = .ok (.aload_n 2, 1) := by decide +kernel
theorem d6_21 : decode jdk_65_method_123_code 21 = .ok (.iconst 0, 1) := by decide +kernel
theorem d6_22 : decode jdk_65_method_123_code 22 = .ok (.aload_n 0, 1) := by decide +kernel
theorem d6_23 : decode jdk_65_method_123_code 23 = .ok (.arraylength, 1) := by decide +kernel
theorem d6_24 : decode jdk_65_method_123_code 24 = .ok (.iload_n 1, 1) := by decide +kernel
theorem d6_25 : decode jdk_65_method_123_code 25 = .ok (.invokestatic 304, 3) := by decide +kernel
theorem pd_0 : parseMethodDescriptor "(II)I" = some ⟨[.int, .int], some .int⟩ := by decide +kernel
theorem d6_28 : decode jdk_65_method_123_code 28 = .ok (.invokestatic 150, 3) := by decide +kernel
theorem d6_31 : decode jdk_65_method_123_code 31 = .ok (.aload_n 2, 1) := by decide +kernel
theorem d6_32 : decode jdk_65_method_123_code 32 = .ok (.areturn, 1) := by decide +kernel
def Q6 (Z : State) (ao : Addr) (xl : Int32) (n : Nat) (k : Nat) (xz : Int32) (f : Nat → Int32) (h0 : Heap) (n0 : Nat) (v : Option Value) (h : Heap) (L : List Loc) : Prop := ∃ b : Addr, v = some (.ref b) ∧ Fr n0 L ∧ Keep h0 h [] ∧ h0.size ≤ b ∧ W.AI Z h b .int k f
set_option maxRecDepth 65536 in
set_option maxHeartbeats 40000000 in
theorem rm6 (l : Launch) (Z : State) (a0 : Array Value) (hw : ∀ d ∈ tables_1, d.before a0 Z = true) (ws : List Jvm.Cond) (ao : Addr) (xl : Int32) (n : Nat) (k : Nat) (xz : Int32) (f : Nat → Int32) (h0 : Heap) (n0 : Nat) (Z0 : n0 ≤ h0.size) (hz : xz.toInt = n) (hl : xl.toInt = k) (hkn : k ≤ n) (hc : n ≤ 4) (A0 : W.AI Z h0 ao .int n f) (hne : k ≠ n) :
    MetFree l (⟨"java/util/Arrays", "copyOf", "([II)[I"⟩ : MethodName) (head1 (Jvm.Cond.code (⟨"java/util/Arrays", "copyOf", "([II)[I"⟩ : MethodName) jdk_65_method_123_code 3 (some (.array .int)) :: ws) ({ frames := 1, cells := 1, slots := 4, locals := 18 } : Room)) (fun a U => a = #[(.ref ao), (.int xl)] ∧ Z.Warmed39 U.vm ∧ U.heap = h0) (fun _ _ _ _ _ => True) (fun _ U o U' => ∃ v L, o = .returned v ∧ Q6 Z ao xl n k xz f h0 n0 v U'.heap L ∧ FrameEnd U o U' L ({ frames := 1, cells := 1, slots := 4, locals := 18 } : Room).cells ({ frames := 1, cells := 1, slots := 4, locals := 18 } : Room).slots) := by
  refine MetFree.of_bodySF (plainFor_of_name pn_1) hisR ?_
  intro p e s m args below meth c s₁ Bd hml0 hP hK
  obtain ⟨rfl, hZ, hh⟩ := hP
  have hx := Bd.exec
  have hby := Bd.bytes
  have hml : c.maxLocals = 3 := hml0
  have hown : s.vm.findClass "java/util/Arrays" = some m.cls := findClass_of_methodNamed Bd.named
  have hnm := (name_of_methodNamed Bd.named Bd.method).1
  have hlk : meth.locks = false := BodyLoose.notSynchronized Bd
  have X0 : Stand p l e ({ frames := 1, cells := 1, slots := 4, locals := 18 } : Room) s m #[(.ref ao), (.int xl)] below meth c s₁ [] 0 0 := Stand.of_body Bd
  have e0 : s₁.heap = h0 := by rw [← hh, Bd.state]; rfl
  have N0 := Fr.nil n0
  show W.Gl p e below s (Q6 Z ao xl n k xz f h0 n0) ({ frames := 1, cells := 1, slots := 4, locals := 18 } : Room).cells ({ frames := 1, cells := 1, slots := 4, locals := 18 } : Room).slots s₁ (entryFrame m #[(.ref ao), (.int xl)] 3)
  refine W.cast (ef_6 m ao xl) ?_
  have K0 : Keep h0 h0 [] := Keep.refl h0 []
  refine W.s1 (mkF m 1 #[.val (.ref ao), .val (.int xl), .unset] [(.int xl)]) (fun _ kx_ => XS.iloadN X0.here hx rfl (hb hby d6_0) rfl kx_) ?_
  refine W.s1 (mkF m 2 #[.val (.ref ao), .val (.int xl), .unset] [(.ref ao), (.int xl)]) (fun _ kx_ => XS.aloadN X0.here hx rfl (hb hby d6_1) rfl rfl kx_) ?_
  refine W.alen X0 hx hZ e0 A0 (z := xz) hz (hb hby d6_2) (pc' := 3) rfl ?_
  refine W.icmp X0 hx (hb hby d6_3) (pc' := 14) (pc'' := 6) (by decide) (by decide) rfl (fun (c3 : ¬ xl = xz) => ?_) (fun (c3 : xl = xz) => ?_)
  · refine W.s1 (mkF m 15 #[.val (.ref ao), .val (.int xl), .unset] [(.int xl)]) (fun _ kx_ => XS.iloadN X0.here hx rfl (hb hby d6_14) rfl kx_) ?_
    refine W.newi X0 hx hZ (ty := .int) (aty := .int) (hw _ (List.mem_of_getElem? (i := 9) rfl)) rfl rfl e0 (hb hby d6_15) (n := k) hl (cap := 4) (by omega) (by decide) (by decide) (by decide) (pc' := 17) rfl (fun T101 h101 ab X101 e101 E101 g101 A101 => ?_)
    have ne102 : ao ≠ ab := Nat.ne_of_lt (Nat.lt_of_lt_of_le A0.lt (Nat.le_of_eq g101.symm))
    have ge101 : n0 ≤ ab := Nat.le_trans Z0 (Nat.le_of_eq g101.symm)
    have sz101 : h0.size ≤ ab := Nat.le_trans K0.1 (Nat.le_of_eq g101.symm)
    have Z101 : n0 ≤ h101.size := Nat.le_trans Z0 E101.1
    have K101 : Keep h0 h101 [] := K0.ext E101
    have f103 := A0.ext E101
    refine W.s1 (mkF m 18 #[.val (.ref ao), .val (.int xl), .val (.ref ab)] []) (fun _ kx_ => XS.astoreN X101.here hx rfl (hb hby d6_17) rfl rfl (l' := #[.val (.ref ao), .val (.int xl), .val (.ref ab)]) rfl kx_) ?_
    refine W.s1 (mkF m 19 #[.val (.ref ao), .val (.int xl), .val (.ref ab)] [(.ref ao)]) (fun _ kx_ => XS.aloadN X101.here hx rfl (hb hby d6_18) rfl rfl kx_) ?_
    refine W.s1 (mkF m 20 #[.val (.ref ao), .val (.int xl), .val (.ref ab)] [(.int (0 : Int32)), (.ref ao)]) (fun _ kx_ => XS.iconst X101.here hx rfl (hb hby d6_19) kx_) ?_
    refine W.s1 (mkF m 21 #[.val (.ref ao), .val (.int xl), .val (.ref ab)] [(.ref ab), (.int (0 : Int32)), (.ref ao)]) (fun _ kx_ => XS.aloadN X101.here hx rfl (hb hby d6_20) rfl rfl kx_) ?_
    refine W.s1 (mkF m 22 #[.val (.ref ao), .val (.int xl), .val (.ref ab)] [(.int (0 : Int32)), (.ref ab), (.int (0 : Int32)), (.ref ao)]) (fun _ kx_ => XS.iconst X101.here hx rfl (hb hby d6_21) kx_) ?_
    refine W.s1 (mkF m 23 #[.val (.ref ao), .val (.int xl), .val (.ref ab)] [(.ref ao), (.int (0 : Int32)), (.ref ab), (.int (0 : Int32)), (.ref ao)]) (fun _ kx_ => XS.aloadN X101.here hx rfl (hb hby d6_22) rfl rfl kx_) ?_
    refine W.alen X101 hx hZ e101 f103 (z := xz) hz (hb hby d6_23) (pc' := 24) rfl ?_
    refine W.s1 (mkF m 25 #[.val (.ref ao), .val (.int xl), .val (.ref ab)] [(.int xl), (.int xz), (.int (0 : Int32)), (.ref ab), (.int (0 : Int32)), (.ref ao)]) (fun _ kx_ => XS.iloadN X101.here hx rfl (hb hby d6_24) rfl kx_) ?_
    obtain ⟨_, _, ⟨T104, L104, k104, n104⟩, -, X104, ⟨Lc104, hQ104, l104, y104, z104⟩, st104⟩ := Jvm.LawKit.callS X101 hx (y := (⟨"java/lang/Math", "min", "(II)I"⟩ : MethodName)) hown (mvT hZ (hw _ (List.mem_of_getElem? (i := 36) rfl))) (mvT hZ (hw _ (List.mem_of_getElem? (i := 37) rfl))) (mvT hZ (hw _ (List.mem_of_getElem? (i := 38) rfl))) (mvT hZ (hw _ (List.mem_of_getElem? (i := 39) rfl))) (by decide) (backOf (W := 4) (rm7 l Z a0 hw [] xz xl h101 n0 Z101 ) hZ (hw _ (List.mem_of_getElem? (i := 39) rfl)) (hw _ (List.mem_of_getElem? (i := 38) rfl)) (by decide) (by decide)) (g := (mkF m 25 #[.val (.ref ao), .val (.int xl), .val (.ref ab)] [(.int xl), (.int xz), (.int (0 : Int32)), (.ref ab), (.int (0 : Int32)), (.ref ao)])) rfl (by rw [hml]; rfl) (argsL := [(.int xz), (.int xl)]) (rest := [(.int (0 : Int32)), (.ref ab), (.int (0 : Int32)), (.ref ao)]) (lenOf pd_0 rfl) rfl (by show 2 * 0 + _ ≤ _; exact Nat.le_of_eq rfl) (hb hby d6_25) (fun _ _ => ⟨rfl, e101, (by decide : 1 + 0 ≤ _), (by decide : 4 + 0 ≤ _)⟩)
    dsimp only [Pt.U, Pt.locs, Pt.cells, Pt.slots] at X104 l104 y104 z104 st104 hQ104
    subst l104 y104 z104
    obtain ⟨xr, rfl, Nq104, eq104, hxr⟩ := hQ104
    have N104 := Fr.app N0 Nq104
    have hr : xr.toInt = k := by rcases hxr with ⟨rfl, q⟩ | ⟨rfl, q⟩; rw [Int32.lt_iff_toInt_lt] at q; omega; exact hl
    refine W.s2 (mkF m 28 #[.val (.ref ao), .val (.int xl), .val (.ref ab)] [(.int xr), (.int (0 : Int32)), (.ref ab), (.int (0 : Int32)), (.ref ao)]) st104 ?_
    refine W.cpi X104 hx hZ hown (hw _ (List.mem_of_getElem? (i := 40) rfl)) (hw _ (List.mem_of_getElem? (i := 43) rfl)) (hw _ (List.mem_of_getElem? (i := 41) rfl)) (hw _ (List.mem_of_getElem? (i := 42) rfl)) eq104 (k := k) (z := xz) (z' := xl) f103 hz A101 hl hr hkn (Nat.le_refl _) N104 ge101 (by rw [hml]; rfl) (hb hby d6_28) (by decide) (Wd := 0) (by decide) (by decide) (pc' := 31) rfl (fun T105 h105 L105 X105 e105 N105 Kq105 A105 => ?_)
    have Z105 : n0 ≤ h105.size := Nat.le_trans Z101 Kq105.1
    have K105 : Keep h0 h105 [] := K101.trans Kq105 (allS (Or.inr sz101) all0)
    have f106 := f103.keep Kq105 (ninS ne102 nin0)
    refine W.s1 (mkF m 32 #[.val (.ref ao), .val (.int xl), .val (.ref ab)] [(.ref ab)]) (fun _ kx_ => XS.aloadN X105.here hx rfl (hb hby d6_31) rfl rfl kx_) ?_
    exact W.retA X105 hx hlk Bd.returns rfl rfl rfl (hb hby d6_32) (by show Q6 Z ao xl n k xz f h0 n0 _ T105.heap _; rw [e105]; exact ⟨_, rfl, N105, K105, sz101, A105.congr fun i hi => (if_pos hi).symm⟩) (by decide) (by decide)
  · exact absurd (by rw [c3] at hl; omega : k = n) hne
theorem ef_5 (m : MethodId) (x0 : Addr) : entryFrame m #[(.ref x0)] 2 = mkF m 0 #[.val (.ref x0), .unset] [] := by first | (simp [entryFrame, mkF, argsToLocals, Value.category]; done) | rfl
theorem d5_0 : decode prog_16_method_3_code 0 = .ok (.aload_n 0, 1) := by decide +kernel
theorem d5_1 : decode prog_16_method_3_code 1 = .ok (.getfield 7, 3) := by decide +kernel
theorem d5_4 : decode prog_16_method_3_code 4 = .ok (.aload_n 0, 1) := by decide +kernel
theorem d5_5 : decode prog_16_method_3_code 5 = .ok (.getfield 17, 3) := by decide +kernel
theorem d5_8 : decode prog_16_method_3_code 8 = .ok (.invokestatic 21, 3) := by decide +kernel
theorem pd_1 : parseMethodDescriptor "([II)[I" = some ⟨[(.array .int), .int], some (.array .int)⟩ := by decide +kernel
theorem d5_11 : decode prog_16_method_3_code 11 = .ok (.astore_n 1, 1) := by decide +kernel
theorem d5_12 : decode prog_16_method_3_code 12 = .ok (.aload_n 0, 1) := by decide +kernel
theorem d5_13 : decode prog_16_method_3_code 13 = .ok (.invokevirtual 27, 3) := by decide +kernel
theorem pd_2 : parseMethodDescriptor "()V" = some ⟨[], none⟩ := by decide +kernel
theorem d5_16 : decode prog_16_method_3_code 16 = .ok (.aload_n 1, 1) := by decide +kernel
theorem d5_17 : decode prog_16_method_3_code 17 = .ok (.areturn, 1) := by decide +kernel
def Q5 (Z : State) (ao : Addr) (ap : Addr) (an : Addr) (n : Nat) (xz : Int32) (xs : List Int32) (h0 : Heap) (n0 : Nat) (v : Option Value) (h : Heap) (L : List Loc) : Prop := ∃ b : Addr, v = some (.ref b) ∧ Fr n0 L ∧ Keep h0 h [ao, ap, an] ∧ h0.size ≤ b ∧ b < h.size ∧ W.AI Z h b .int xs.length (fun i => xs.getD i 0) ∧ own_NP Z h ao ap an n []
set_option maxRecDepth 65536 in
set_option maxHeartbeats 40000000 in
theorem rm5 (l : Launch) (Z : State) (a0 : Array Value) (hw : ∀ d ∈ tables_1, d.before a0 Z = true) (ws : List Jvm.Cond) (ao : Addr) (ap : Addr) (an : Addr) (n : Nat) (xz : Int32) (xs : List Int32) (h0 : Heap) (n0 : Nat) (Z0 : n0 ≤ h0.size) (hz : xz.toInt = n) (hn : n ≤ 4) (hxn : xs.length ≤ n) (H0 : own_NP Z h0 ao ap an n xs) (hne : xs.length ≠ n) (ne1 : ao ≠ ap) (ne2 : ao ≠ an) (ne3 : ap ≠ an) (g1 : n0 ≤ ao) (g2 : n0 ≤ ap) (g3 : n0 ≤ an) :
    MetFree l (⟨"com/example/tempora/tempora/NotedPoints", "take", "()[I"⟩ : MethodName) (head1 (Jvm.Cond.code (⟨"com/example/tempora/tempora/NotedPoints", "take", "()[I"⟩ : MethodName) prog_16_method_3_code 2 (some (.array .int)) :: ws) ({ frames := 2, cells := 1, slots := 4, locals := 32 } : Room)) (fun a U => a = #[(.ref ao)] ∧ Z.Warmed39 U.vm ∧ U.heap = h0) (fun _ _ _ _ _ => True) (fun _ U o U' => ∃ v L, o = .returned v ∧ Q5 Z ao ap an n xz xs h0 n0 v U'.heap L ∧ FrameEnd U o U' L ({ frames := 2, cells := 1, slots := 4, locals := 32 } : Room).cells ({ frames := 2, cells := 1, slots := 4, locals := 32 } : Room).slots) := by
  refine MetFree.of_bodySF (plainFor_of_name pn_0) hisR ?_
  intro p e s m args below meth c s₁ Bd hml0 hP hK
  obtain ⟨rfl, hZ, hh⟩ := hP
  have hx := Bd.exec
  have hby := Bd.bytes
  have hml : c.maxLocals = 2 := hml0
  have hown : s.vm.findClass "com/example/tempora/tempora/NotedPoints" = some m.cls := findClass_of_methodNamed Bd.named
  have hnm := (name_of_methodNamed Bd.named Bd.method).1
  have hlk : meth.locks = false := BodyLoose.notSynchronized Bd
  have X0 : Stand p l e ({ frames := 2, cells := 1, slots := 4, locals := 32 } : Room) s m #[(.ref ao)] below meth c s₁ [] 0 0 := Stand.of_body Bd
  have e0 : s₁.heap = h0 := by rw [← hh, Bd.state]; rfl
  have N0 := Fr.nil n0
  show W.Gl p e below s (Q5 Z ao ap an n xz xs h0 n0) ({ frames := 2, cells := 1, slots := 4, locals := 32 } : Room).cells ({ frames := 2, cells := 1, slots := 4, locals := 32 } : Room).slots s₁ (entryFrame m #[(.ref ao)] 2)
  refine W.cast (ef_5 m ao) ?_
  have K0 : Keep h0 h0 [ao, ap, an] := Keep.refl h0 [ao, ap, an]
  obtain ⟨pf, nf, ct, E1, F1, F2, F3, A1, A2, _, h1, h2, h3, h4⟩ := H0
  refine W.s1 (mkF m 1 #[.val (.ref ao), .unset] [(.ref ao)]) (fun _ kx_ => XS.aloadN X0.here hx rfl (hb hby d5_0) rfl rfl kx_) ?_
  refine W.getf X0 hx hZ hown (host := "") (Or.inl (hw _ (List.mem_of_getElem? (i := 10) rfl))) Via.refl e0 F1 (hb hby d5_1) (pc' := 4) rfl (fun T101 X101 e101 => ?_)
  refine W.s1 (mkF m 5 #[.val (.ref ao), .unset] [(.ref ao), (.ref ap)]) (fun _ kx_ => XS.aloadN X101.here hx rfl (hb hby d5_4) rfl rfl kx_) ?_
  refine W.getf X101 hx hZ hown (host := "") (Or.inl (hw _ (List.mem_of_getElem? (i := 20) rfl))) Via.refl e101 F3 (hb hby d5_5) (pc' := 8) rfl (fun T102 X102 e102 => ?_)
  have Zo := Z0
  obtain ⟨_, _, ⟨T103, L103, k103, n103⟩, -, X103, ⟨Lc103, hQ103, l103, y103, z103⟩, st103⟩ := Jvm.LawKit.callS X102 hx (y := (⟨"java/util/Arrays", "copyOf", "([II)[I"⟩ : MethodName)) hown (mvT hZ (hw _ (List.mem_of_getElem? (i := 32) rfl))) (mvT hZ (hw _ (List.mem_of_getElem? (i := 33) rfl))) (mvT hZ (hw _ (List.mem_of_getElem? (i := 34) rfl))) (mvT hZ (hw _ (List.mem_of_getElem? (i := 35) rfl))) (by decide) (backOf (W := 0) (rm6 l Z a0 hw [] ap ct n xs.length xz pf h0 n0 Z0 hz h1 hxn hn A1 hne) hZ (hw _ (List.mem_of_getElem? (i := 35) rfl)) (hw _ (List.mem_of_getElem? (i := 34) rfl)) (by decide) (by decide)) (g := (mkF m 8 #[.val (.ref ao), .unset] [(.int ct), (.ref ap)])) rfl (by rw [hml]; rfl) (argsL := [(.ref ap), (.int ct)]) (rest := []) (lenOf pd_1 rfl) rfl (by show 2 * 0 + _ ≤ _; exact Nat.le_of_eq rfl) (hb hby d5_8) (fun _ _ => ⟨rfl, e102, (by decide : 0 + 1 ≤ _), (by decide : 0 + 4 ≤ _)⟩)
  dsimp only [Pt.U, Pt.locs, Pt.cells, Pt.slots] at X103 l103 y103 z103 st103 hQ103
  subst l103 y103 z103
  obtain ⟨h103, e103⟩ : ∃ z, T103.heap = z := ⟨_, rfl⟩
  rw [e103] at hQ103
  obtain ⟨ab, rfl, Nq103, Kq103, hge, A103⟩ := hQ103
  have N103 := Fr.app N0 Nq103
  have Z103 : n0 ≤ h103.size := Nat.le_trans Z0 Kq103.1
  have K103 : Keep h0 h103 [ao, ap, an] := K0.trans Kq103 all0
  have f104 := E1.keep Kq103
  have f105 := F1.keep Kq103 nin0
  have f106 := F2.keep Kq103 nin0
  have f107 := F3.keep Kq103 nin0
  have f108 := A1.keep Kq103 nin0
  have f109 := A2.keep Kq103 nin0
  have ne110 : ao ≠ ab := Nat.ne_of_lt (Nat.lt_of_lt_of_le E1.lt hge)
  have ne111 : ap ≠ ab := Nat.ne_of_lt (Nat.lt_of_lt_of_le A1.lt hge)
  have ne112 : an ≠ ab := Nat.ne_of_lt (Nat.lt_of_lt_of_le A2.lt hge)
  have ge113 : n0 ≤ ab := Nat.le_trans Zo hge
  refine W.s2 (mkF m 11 #[.val (.ref ao), .unset] [(.ref ab)]) st103 ?_
  have hge0 := hge
  refine W.s1 (mkF m 12 #[.val (.ref ao), .val (.ref ab)] []) (fun _ kx_ => XS.astoreN X103.here hx rfl (hb hby d5_11) rfl rfl (l' := #[.val (.ref ao), .val (.ref ab)]) rfl kx_) ?_
  refine W.s1 (mkF m 13 #[.val (.ref ao), .val (.ref ab)] [(.ref ao)]) (fun _ kx_ => XS.aloadN X103.here hx rfl (hb hby d5_12) rfl rfl kx_) ?_
  obtain ⟨cq114, kq114, q114a, q114b, q114c⟩ := isOf hZ e103 f104
  obtain ⟨_, _, ⟨T114, L114, k114, n114⟩, -, X114, ⟨Lc114, hQ114, l114, y114, z114⟩, st114⟩ := X103.virtualBack hx (y := (⟨"com/example/tempora/tempora/NotedPoints", "clear", "()V"⟩ : MethodName)) (z := (⟨"com/example/tempora/tempora/NotedPoints", "clear", "()V"⟩ : MethodName)) hown (mvT hZ (hw _ (List.mem_of_getElem? (i := 44) rfl))) (mvT hZ (hw _ (List.mem_of_getElem? (i := 23) rfl))) (notFace_of_selects (args := #[]) (mvT hZ (hw _ (List.mem_of_getElem? (i := 25) rfl)))) (mvT hZ (hw _ (List.mem_of_getElem? (i := 25) rfl))) (mvT hZ (hw _ (List.mem_of_getElem? (i := 24) rfl))) (by decide) (backOf (W := 0) (rm4 l Z a0 hw [] ao ap an n xz xs h103 n0 Z103 hz (by omega) ⟨_, _, _, f104, f105, f106, f107, f108, f109, trivial, h1, h2, h3, h4⟩ ne1 ne2 ne3 g1 g2 g3 (fun q => by omega)) hZ (hw _ (List.mem_of_getElem? (i := 26) rfl)) (hw _ (List.mem_of_getElem? (i := 2) rfl)) (by decide) (by decide)) q114a q114c (g := (mkF m 13 #[.val (.ref ao), .val (.ref ab)] [(.ref ao)])) rfl (by rw [hml]; rfl) (Steps.refl _) (argsL := []) (rest := []) (lenOf pd_2 rfl) rfl (by show 2 * 0 + _ ≤ _; exact Nat.le_of_eq rfl) (hb hby d5_13) (fun _ _ => ⟨rfl, e103, (by decide : 1 + 0 ≤ _), (by decide : 4 + 0 ≤ _)⟩)
  dsimp only [Pt.U, Pt.locs, Pt.cells, Pt.slots] at X114 l114 y114 z114 st114 hQ114
  subst l114 y114 z114
  obtain ⟨h114, e114⟩ : ∃ z, T114.heap = z := ⟨_, rfl⟩
  rw [e114] at hQ114
  obtain ⟨rfl, Nq114, Kq114, Hn⟩ := hQ114
  have N114 := Fr.app N103 Nq114
  have Z114 : n0 ≤ h114.size := Nat.le_trans Z103 Kq114.1
  have K114 : Keep h0 h114 [ao, ap, an] := K103.trans Kq114 (allS (Or.inl (List.mem_of_getElem? (i := 0) rfl)) (allS (Or.inl (List.mem_of_getElem? (i := 1) rfl)) (allS (Or.inl (List.mem_of_getElem? (i := 2) rfl)) all0)))
  have f115 := f104.keep Kq114
  have f121 := A103.keep Kq114 (ninS (Ne.symm ne110) (ninS (Ne.symm ne111) (ninS (Ne.symm ne112) nin0)))
  refine W.s3 (mkF m 16 #[.val (.ref ao), .val (.ref ab)] []) st114 ?_
  refine W.s1 (mkF m 17 #[.val (.ref ao), .val (.ref ab)] [(.ref ab)]) (fun _ kx_ => XS.aloadN X114.here hx rfl (hb hby d5_16) rfl rfl kx_) ?_
  exact W.retA X114 hx hlk Bd.returns rfl rfl rfl (hb hby d5_17) (by show Q5 Z ao ap an n xz xs h0 n0 _ T114.heap _; rw [e114]; exact ⟨_, rfl, N114, K114, hge0, f121.lt, f121.congr fun i hi => (h2 i hi).symm, Hn⟩) (by decide) (by decide)
theorem pn_2 : plainName "com/example/tempora/tempora/NotedPointsClearPinLaw" = true := by first | (simp [plainName, overriddenIn]; done) | decide +kernel
theorem ef_0 (m : MethodId) (x0 : Int32) (x1 : Int32) (x2 : Int32) (x3 : Int32) (x4 : Int32) (x5 : Int32) : entryFrame m #[(.int x0), (.int x1), (.int x2), (.int x3), (.int x4), (.int x5)] maxLocals = mkF m 0 #[.val (.int x0), .val (.int x1), .val (.int x2), .val (.int x3), .val (.int x4), .val (.int x5), .unset, .unset, .unset, .unset, .unset, .unset] [] := by first | (simp [entryFrame, mkF, argsToLocals, Value.category, maxLocals]; done) | rfl
theorem pd_3 : parseMethodDescriptor "(I)V" = some ⟨[.int], none⟩ := by decide +kernel
theorem pd_4 : parseMethodDescriptor "()[I" = some ⟨[], some (.array .int)⟩ := by decide +kernel
def Q0 (Z : State) (xa : Int32) (xb : Int32) (xc : Int32) (xd : Int32) (xe : Int32) (xk : Int32) (h0 : Heap) (n0 : Nat) (v : Option Value) (h : Heap) (L : List Loc) : Prop := v = some (.int 1) ∧ Fr n0 L
set_option maxRecDepth 65536 in
set_option maxHeartbeats 40000000 in
theorem rm0 (l : Launch) (Z : State) (a0 : Array Value) (hw : ∀ d ∈ tables_1, d.before a0 Z = true) (ws : List Jvm.Cond) (xa : Int32) (xb : Int32) (xc : Int32) (xd : Int32) (xe : Int32) (xk : Int32) (h0 : Heap) (n0 : Nat) (Z0 : n0 ≤ h0.size) :
    MetFree l x (head1 (Jvm.Cond.code x code maxLocals ret :: ws) room_1) (fun a U => a = #[(.int xa), (.int xb), (.int xc), (.int xd), (.int xe), (.int xk)] ∧ Z.Warmed39 U.vm ∧ U.heap = h0) (fun _ _ _ _ _ => True) (fun _ U o U' => ∃ v L, o = .returned v ∧ Q0 Z xa xb xc xd xe xk h0 n0 v U'.heap L ∧ FrameEnd U o U' L 16 128) := by
  refine MetFree.of_bodySF (plainFor_of_name pn_2) hisR ?_
  intro p e s m args below meth c s₁ Bd hml0 hP hK
  obtain ⟨rfl, hZ, hh⟩ := hP
  have hx := Bd.exec
  have hby := Bd.bytes
  have hml : c.maxLocals = 12 := hml0
  have hown : s.vm.findClass "com/example/tempora/tempora/NotedPointsClearPinLaw" = some m.cls := findClass_of_methodNamed Bd.named
  have hnm := (name_of_methodNamed Bd.named Bd.method).1
  have hlk : meth.locks = false := BodyLoose.notSynchronized Bd
  have X0 : Stand p l e room_1 s m #[(.int xa), (.int xb), (.int xc), (.int xd), (.int xe), (.int xk)] below meth c s₁ [] 0 0 := Stand.of_body Bd
  have e0 : s₁.heap = h0 := by rw [← hh, Bd.state]; rfl
  have N0 := Fr.nil n0
  show W.Gl p e below s (Q0 Z xa xb xc xd xe xk h0 n0) 16 128 s₁ (entryFrame m #[(.int xa), (.int xb), (.int xc), (.int xd), (.int xe), (.int xk)] maxLocals)
  refine W.cast (ef_0 m xa xb xc xd xe xk) ?_
  refine W.newo X0 hx hZ hown (hw _ (List.mem_of_getElem? (i := 0) rfl)) (hw _ (List.mem_of_getElem? (i := 1) rfl)) (hw _ (List.mem_of_getElem? (i := 2) rfl)) e0 (hb hby at_0) (by decide) (by decide) (pc' := 3) rfl (fun T101 h101 b101 X101 e101 E101 g101 A101 D101 => ?_)
  have ge101 : n0 ≤ b101 := Nat.le_trans Z0 (Nat.le_of_eq g101.symm)
  have Z101 : n0 ≤ h101.size := Nat.le_trans Z0 E101.1
  have f102 : Fld Z h101 b101 "com/example/tempora/tempora/NotedPoints" "points" "[I" .null := D101 (Or.inr (hw _ (List.mem_of_getElem? (i := 11) rfl))) (ty := (.array .int)) (by decide)
  have f103 : Fld Z h101 b101 "com/example/tempora/tempora/NotedPoints" "noted" "[Z" .null := D101 (Or.inr (hw _ (List.mem_of_getElem? (i := 14) rfl))) (ty := (.array .boolean)) (by decide)
  have f104 : Fld Z h101 b101 "com/example/tempora/tempora/NotedPoints" "count" "I" (.int (0 : Int32)) := D101 (Or.inl (hw _ (List.mem_of_getElem? (i := 21) rfl))) (ty := .int) (by decide)
  refine W.s1 (mkF m 4 #[.val (.int xa), .val (.int xb), .val (.int xc), .val (.int xd), .val (.int xe), .val (.int xk), .unset, .unset, .unset, .unset, .unset, .unset] [(.ref b101), (.ref b101)]) (fun _ kx_ => XS.dup X101.here hx rfl (hb hby at_3) rfl rfl kx_) ?_
  refine W.s1 (mkF m 5 #[.val (.int xa), .val (.int xb), .val (.int xc), .val (.int xd), .val (.int xe), .val (.int xk), .unset, .unset, .unset, .unset, .unset, .unset] [(.int (4 : Int32)), (.ref b101), (.ref b101)]) (fun _ kx_ => XS.iconst X101.here hx rfl (hb hby at_4) kx_) ?_
  have Zo := Z101
  obtain ⟨_, _, ⟨T105, L105, k105, n105⟩, -, X105, ⟨Lc105, hQ105, l105, y105, z105⟩, st105⟩ := X101.specialBack hx (y := (⟨"com/example/tempora/tempora/NotedPoints", "<init>", "(I)V"⟩ : MethodName)) rfl hown (mvT hZ (hw _ (List.mem_of_getElem? (i := 3) rfl))) (mvT hZ (hw _ (List.mem_of_getElem? (i := 4) rfl))) (mvT hZ (hw _ (List.mem_of_getElem? (i := 5) rfl))) (by decide) (backOf (W := 1) (rm1 l Z a0 hw [] b101 (4 : Int32) 4 .null .null h101 n0 Z101 rfl (by decide) A101 f102 f103 f104 ge101) hZ (hw _ (List.mem_of_getElem? (i := 5) rfl)) (hw _ (List.mem_of_getElem? (i := 2) rfl)) (by decide) (by decide)) (g := (mkF m 5 #[.val (.int xa), .val (.int xb), .val (.int xc), .val (.int xd), .val (.int xe), .val (.int xk), .unset, .unset, .unset, .unset, .unset, .unset] [(.int (4 : Int32)), (.ref b101), (.ref b101)])) rfl (by rw [hml]; rfl) (Steps.refl _) (a := b101) (argsL := [(.int (4 : Int32))]) (rest := [(.ref b101)]) (lenOf pd_3 rfl) rfl (by show 2 * 0 + _ ≤ _; exact Nat.le_of_eq rfl) (hb hby at_5) (fun _ _ => ⟨rfl, e101, (by decide : 1 + 2 ≤ _), (by decide : 3 + 8 ≤ _)⟩)
  dsimp only [Pt.U, Pt.locs, Pt.cells, Pt.slots] at X105 l105 y105 z105 st105 hQ105
  subst l105 y105 z105
  obtain ⟨h105, e105⟩ : ∃ z, T105.heap = z := ⟨_, rfl⟩
  rw [e105] at hQ105
  obtain ⟨rfl, Nq105, Kq105, ap, an, hp1, hp2, hp3, hp4, hp5, H105⟩ := hQ105
  have N105 := Fr.app N0 Nq105
  have Z105 : n0 ≤ h105.size := Nat.le_trans Z101 Kq105.1
  have f106 := A101.keep Kq105
  have ge_ap : n0 ≤ ap := Nat.le_trans Zo hp1
  have ge_an : n0 ≤ an := Nat.le_trans Zo hp2
  refine W.s3 (mkF m 8 #[.val (.int xa), .val (.int xb), .val (.int xc), .val (.int xd), .val (.int xe), .val (.int xk), .unset, .unset, .unset, .unset, .unset, .unset] [(.ref b101)]) st105 ?_
  refine W.s1 (mkF m 10 #[.val (.int xa), .val (.int xb), .val (.int xc), .val (.int xd), .val (.int xe), .val (.int xk), .val (.ref b101), .unset, .unset, .unset, .unset, .unset] []) (fun _ kx_ => XS.astore X105.here hx rfl (hb hby at_8) rfl rfl (l' := #[.val (.int xa), .val (.int xb), .val (.int xc), .val (.int xd), .val (.int xe), .val (.int xk), .val (.ref b101), .unset, .unset, .unset, .unset, .unset]) rfl kx_) ?_
  refine W.s1 (mkF m 12 #[.val (.int xa), .val (.int xb), .val (.int xc), .val (.int xd), .val (.int xe), .val (.int xk), .val (.ref b101), .unset, .unset, .unset, .unset, .unset] [(.int xk)]) (fun _ kx_ => XS.iload X105.here hx rfl (hb hby at_10) rfl kx_) ?_
  refine W.s1 (mkF m 13 #[.val (.int xa), .val (.int xb), .val (.int xc), .val (.int xd), .val (.int xe), .val (.int xk), .val (.ref b101), .unset, .unset, .unset, .unset, .unset] [(.int (3 : Int32)), (.int xk)]) (fun _ kx_ => XS.iconst X105.here hx rfl (hb hby at_12) kx_) ?_
  refine W.s1 (mkF m 14 #[.val (.int xa), .val (.int xb), .val (.int xc), .val (.int xd), .val (.int xe), .val (.int xk), .val (.ref b101), .unset, .unset, .unset, .unset, .unset] [(.int (xk &&& (3 : Int32)))]) (fun _ kx_ => XS.iand X105.here hx rfl (hb hby at_13) rfl kx_) ?_
  generalize hg_xn : (xk &&& (3 : Int32)) = xn
  refine W.s1 (mkF m 16 #[.val (.int xa), .val (.int xb), .val (.int xc), .val (.int xd), .val (.int xe), .val (.int xk), .val (.ref b101), .val (.int xn), .unset, .unset, .unset, .unset] []) (fun _ kx_ => XS.istore X105.here hx rfl (hb hby at_14) rfl (l' := #[.val (.int xa), .val (.int xb), .val (.int xc), .val (.int xd), .val (.int xe), .val (.int xk), .val (.ref b101), .val (.int xn), .unset, .unset, .unset, .unset]) rfl kx_) ?_
  have J57 : ∀ (T : State) (h : Heap) (Lc : List Loc) (xs0 : List Int32), Stand p l e room_1 s m #[(.int xa), (.int xb), (.int xc), (.int xd), (.int xe), (.int xk)] below meth c T Lc 3 11 → T.heap = h → Fr n0 Lc → n0 ≤ h.size → Exa Z h b101 "com/example/tempora/tempora/NotedPoints" → own_NP Z h b101 ap an 4 xs0 → xs0.length ≤ 3 → W.Gl p e below s (Q0 Z xa xb xc xd xe xk h0 n0) 16 128 T (mkF m 57 #[.val (.int xa), .val (.int xb), .val (.int xc), .val (.int xd), .val (.int xe), .val (.int xk), .val (.ref b101), .val (.int xn), .unset, .unset, .unset, .unset] []) := by
    intro T h Lc xs0 X eT N Zh Ea HN hxs
    refine W.s1 (mkF m 59 #[.val (.int xa), .val (.int xb), .val (.int xc), .val (.int xd), .val (.int xe), .val (.int xk), .val (.ref b101), .val (.int xn), .unset, .unset, .unset, .unset] [(.ref b101)]) (fun _ kx_ => XS.aload X.here hx rfl (hb hby at_57) rfl rfl kx_) ?_
    obtain ⟨cq110, kq110, q110a, q110b, q110c⟩ := isOf hZ eT Ea
    obtain ⟨_, _, ⟨T110, L110, k110, n110⟩, -, X110, ⟨Lc110, hQ110, l110, y110, z110⟩, st110⟩ := X.virtualBack hx (y := (⟨"com/example/tempora/tempora/NotedPoints", "clear", "()V"⟩ : MethodName)) (z := (⟨"com/example/tempora/tempora/NotedPoints", "clear", "()V"⟩ : MethodName)) hown (mvT hZ (hw _ (List.mem_of_getElem? (i := 22) rfl))) (mvT hZ (hw _ (List.mem_of_getElem? (i := 23) rfl))) (notFace_of_selects (args := #[]) (mvT hZ (hw _ (List.mem_of_getElem? (i := 25) rfl)))) (mvT hZ (hw _ (List.mem_of_getElem? (i := 25) rfl))) (mvT hZ (hw _ (List.mem_of_getElem? (i := 24) rfl))) (by decide) (backOf (W := 0) (rm4 l Z a0 hw [] b101 ap an 4 (4 : Int32) xs0 h n0 Zh rfl (by decide) HN hp4 hp5 hp3 ge101 ge_ap ge_an (fun q => by omega)) hZ (hw _ (List.mem_of_getElem? (i := 26) rfl)) (hw _ (List.mem_of_getElem? (i := 2) rfl)) (by decide) (by decide)) q110a q110c (g := (mkF m 59 #[.val (.int xa), .val (.int xb), .val (.int xc), .val (.int xd), .val (.int xe), .val (.int xk), .val (.ref b101), .val (.int xn), .unset, .unset, .unset, .unset] [(.ref b101)])) rfl (by rw [hml]; rfl) (Steps.refl _) (argsL := []) (rest := []) (lenOf pd_2 rfl) rfl (by show 2 * 0 + _ ≤ _; exact Nat.le_of_eq rfl) (hb hby at_59) (fun _ _ => ⟨rfl, eT, (by decide : 3 + 0 ≤ _), (by decide : 11 + 0 ≤ _)⟩)
    dsimp only [Pt.U, Pt.locs, Pt.cells, Pt.slots] at X110 l110 y110 z110 st110 hQ110
    subst l110 y110 z110
    obtain ⟨h110, e110⟩ : ∃ z, T110.heap = z := ⟨_, rfl⟩
    rw [e110] at hQ110
    obtain ⟨rfl, Nq110, Kq110, H110⟩ := hQ110
    have N110 := Fr.app N Nq110
    have Z110 : n0 ≤ h110.size := Nat.le_trans Zh Kq110.1
    have f111 := Ea.keep Kq110
    refine W.s3 (mkF m 62 #[.val (.int xa), .val (.int xb), .val (.int xc), .val (.int xd), .val (.int xe), .val (.int xk), .val (.ref b101), .val (.int xn), .unset, .unset, .unset, .unset] []) st110 ?_
    refine W.s1 (mkF m 64 #[.val (.int xa), .val (.int xb), .val (.int xc), .val (.int xd), .val (.int xe), .val (.int xk), .val (.ref b101), .val (.int xn), .unset, .unset, .unset, .unset] [(.int xk)]) (fun _ kx_ => XS.iload X110.here hx rfl (hb hby at_62) rfl kx_) ?_
    refine W.s1 (mkF m 65 #[.val (.int xa), .val (.int xb), .val (.int xc), .val (.int xd), .val (.int xe), .val (.int xk), .val (.ref b101), .val (.int xn), .unset, .unset, .unset, .unset] [(.int (2 : Int32)), (.int xk)]) (fun _ kx_ => XS.iconst X110.here hx rfl (hb hby at_64) kx_) ?_
    refine W.s1 (mkF m 66 #[.val (.int xa), .val (.int xb), .val (.int xc), .val (.int xd), .val (.int xe), .val (.int xk), .val (.ref b101), .val (.int xn), .unset, .unset, .unset, .unset] [(.int ((xk.toUInt32 >>> ((2 : Int32) &&& 31).toUInt32).toInt32))]) (fun _ kx_ => XS.iushr X110.here hx rfl (hb hby at_65) rfl kx_) ?_
    refine W.s1 (mkF m 67 #[.val (.int xa), .val (.int xb), .val (.int xc), .val (.int xd), .val (.int xe), .val (.int xk), .val (.ref b101), .val (.int xn), .unset, .unset, .unset, .unset] [(.int (3 : Int32)), (.int ((xk.toUInt32 >>> ((2 : Int32) &&& 31).toUInt32).toInt32))]) (fun _ kx_ => XS.iconst X110.here hx rfl (hb hby at_66) kx_) ?_
    refine W.s1 (mkF m 68 #[.val (.int xa), .val (.int xb), .val (.int xc), .val (.int xd), .val (.int xe), .val (.int xk), .val (.ref b101), .val (.int xn), .unset, .unset, .unset, .unset] [(.int (((xk.toUInt32 >>> ((2 : Int32) &&& 31).toUInt32).toInt32) % (3 : Int32)))]) (fun _ kx_ => iremM X110 hx rfl (hb hby at_67) rfl (by decide) kx_) ?_
    generalize hg_xm : (((xk.toUInt32 >>> ((2 : Int32) &&& 31).toUInt32).toInt32) % (3 : Int32)) = xm
    refine W.s1 (mkF m 70 #[.val (.int xa), .val (.int xb), .val (.int xc), .val (.int xd), .val (.int xe), .val (.int xk), .val (.ref b101), .val (.int xn), .val (.int xm), .unset, .unset, .unset] []) (fun _ kx_ => XS.istore X110.here hx rfl (hb hby at_68) rfl (l' := #[.val (.int xa), .val (.int xb), .val (.int xc), .val (.int xd), .val (.int xe), .val (.int xk), .val (.ref b101), .val (.int xn), .val (.int xm), .unset, .unset, .unset]) rfl kx_) ?_
    refine W.s1 (mkF m 71 #[.val (.int xa), .val (.int xb), .val (.int xc), .val (.int xd), .val (.int xe), .val (.int xk), .val (.ref b101), .val (.int xn), .val (.int xm), .unset, .unset, .unset] [(.int xd)]) (fun _ kx_ => XS.iloadN X110.here hx rfl (hb hby at_70) rfl kx_) ?_
    refine W.s1 (mkF m 72 #[.val (.int xa), .val (.int xb), .val (.int xc), .val (.int xd), .val (.int xe), .val (.int xk), .val (.ref b101), .val (.int xn), .val (.int xm), .unset, .unset, .unset] [(.int (3 : Int32)), (.int xd)]) (fun _ kx_ => XS.iconst X110.here hx rfl (hb hby at_71) kx_) ?_
    refine W.s1 (mkF m 73 #[.val (.int xa), .val (.int xb), .val (.int xc), .val (.int xd), .val (.int xe), .val (.int xk), .val (.ref b101), .val (.int xn), .val (.int xm), .unset, .unset, .unset] [(.int (xd &&& (3 : Int32)))]) (fun _ kx_ => XS.iand X110.here hx rfl (hb hby at_72) rfl kx_) ?_
    generalize hg_xdd : (xd &&& (3 : Int32)) = xdd
    refine W.s1 (mkF m 75 #[.val (.int xa), .val (.int xb), .val (.int xc), .val (.int xd), .val (.int xe), .val (.int xk), .val (.ref b101), .val (.int xn), .val (.int xm), .val (.int xdd), .unset, .unset] []) (fun _ kx_ => XS.istore X110.here hx rfl (hb hby at_73) rfl (l' := #[.val (.int xa), .val (.int xb), .val (.int xc), .val (.int xd), .val (.int xe), .val (.int xk), .val (.ref b101), .val (.int xn), .val (.int xm), .val (.int xdd), .unset, .unset]) rfl kx_) ?_
    refine W.s1 (mkF m 77 #[.val (.int xa), .val (.int xb), .val (.int xc), .val (.int xd), .val (.int xe), .val (.int xk), .val (.ref b101), .val (.int xn), .val (.int xm), .val (.int xdd), .unset, .unset] [(.int xe)]) (fun _ kx_ => XS.iload X110.here hx rfl (hb hby at_75) rfl kx_) ?_
    refine W.s1 (mkF m 78 #[.val (.int xa), .val (.int xb), .val (.int xc), .val (.int xd), .val (.int xe), .val (.int xk), .val (.ref b101), .val (.int xn), .val (.int xm), .val (.int xdd), .unset, .unset] [(.int (3 : Int32)), (.int xe)]) (fun _ kx_ => XS.iconst X110.here hx rfl (hb hby at_77) kx_) ?_
    refine W.s1 (mkF m 79 #[.val (.int xa), .val (.int xb), .val (.int xc), .val (.int xd), .val (.int xe), .val (.int xk), .val (.ref b101), .val (.int xn), .val (.int xm), .val (.int xdd), .unset, .unset] [(.int (xe &&& (3 : Int32)))]) (fun _ kx_ => XS.iand X110.here hx rfl (hb hby at_78) rfl kx_) ?_
    generalize hg_xee : (xe &&& (3 : Int32)) = xee
    refine W.s1 (mkF m 81 #[.val (.int xa), .val (.int xb), .val (.int xc), .val (.int xd), .val (.int xe), .val (.int xk), .val (.ref b101), .val (.int xn), .val (.int xm), .val (.int xdd), .val (.int xee), .unset] []) (fun _ kx_ => XS.istore X110.here hx rfl (hb hby at_79) rfl (l' := #[.val (.int xa), .val (.int xb), .val (.int xc), .val (.int xd), .val (.int xe), .val (.int xk), .val (.ref b101), .val (.int xn), .val (.int xm), .val (.int xdd), .val (.int xee), .unset]) rfl kx_) ?_
    obtain ⟨kd, hkd, hld⟩ : ∃ k : Nat, xdd.toInt = k ∧ k < 4 := by rw [← hg_xdd]; exact own_m4 xd
    obtain ⟨ke, hke, hle⟩ : ∃ k : Nat, xee.toInt = k ∧ k < 4 := by rw [← hg_xee]; exact own_m4 xe
    have hcase := own_m3 hg_xm
    rcases hcase with rfl | rfl | rfl
    · refine W.s1 (mkF m 83 #[.val (.int xa), .val (.int xb), .val (.int xc), .val (.int xd), .val (.int xe), .val (.int xk), .val (.ref b101), .val (.int xn), .val (.int (0 : Int32)), .val (.int xdd), .val (.int xee), .unset] [(.int (0 : Int32))]) (fun _ kx_ => XS.iload X110.here hx rfl (hb hby at_81) rfl kx_) ?_
      refine W.ifc X110 hx (hb hby at_83) (pc' := 93) (pc'' := 86) (by decide) (by decide) rfl (fun (c83 : ¬ (0 : Int32) < (0 : Int32)) => ?_) (fun (c83 : (0 : Int32) < (0 : Int32)) => ?_)
      · refine W.s1 (mkF m 95 #[.val (.int xa), .val (.int xb), .val (.int xc), .val (.int xd), .val (.int xe), .val (.int xk), .val (.ref b101), .val (.int xn), .val (.int (0 : Int32)), .val (.int xdd), .val (.int xee), .unset] [(.int (0 : Int32))]) (fun _ kx_ => XS.iload X110.here hx rfl (hb hby at_93) rfl kx_) ?_
        refine W.s1 (mkF m 96 #[.val (.int xa), .val (.int xb), .val (.int xc), .val (.int xd), .val (.int xe), .val (.int xk), .val (.ref b101), .val (.int xn), .val (.int (0 : Int32)), .val (.int xdd), .val (.int xee), .unset] [(.int (1 : Int32)), (.int (0 : Int32))]) (fun _ kx_ => XS.iconst X110.here hx rfl (hb hby at_95) kx_) ?_
        refine W.icmp X110 hx (hb hby at_96) (pc' := 106) (pc'' := 99) (by decide) (by decide) rfl (fun (c96 : ¬ (1 : Int32) < (0 : Int32)) => ?_) (fun (c96 : (1 : Int32) < (0 : Int32)) => ?_)
        · refine W.s1 (mkF m 108 #[.val (.int xa), .val (.int xb), .val (.int xc), .val (.int xd), .val (.int xe), .val (.int xk), .val (.ref b101), .val (.int xn), .val (.int (0 : Int32)), .val (.int xdd), .val (.int xee), .unset] [(.ref b101)]) (fun _ kx_ => XS.aload X110.here hx rfl (hb hby at_106) rfl rfl kx_) ?_
          have Zo2 := Z110
          obtain ⟨cq112, kq112, q112a, q112b, q112c⟩ := isOf hZ e110 f111
          obtain ⟨_, _, ⟨T112, L112, k112, n112⟩, -, X112, ⟨Lc112, hQ112, l112, y112, z112⟩, st112⟩ := X110.virtualBack hx (y := (⟨"com/example/tempora/tempora/NotedPoints", "take", "()[I"⟩ : MethodName)) (z := (⟨"com/example/tempora/tempora/NotedPoints", "take", "()[I"⟩ : MethodName)) hown (mvT hZ (hw _ (List.mem_of_getElem? (i := 27) rfl))) (mvT hZ (hw _ (List.mem_of_getElem? (i := 28) rfl))) (notFace_of_selects (args := #[]) (mvT hZ (hw _ (List.mem_of_getElem? (i := 30) rfl)))) (mvT hZ (hw _ (List.mem_of_getElem? (i := 30) rfl))) (mvT hZ (hw _ (List.mem_of_getElem? (i := 29) rfl))) (by decide) (backOf (W := 0) (rm5 l Z a0 hw [] b101 ap an 4 (4 : Int32) [] h110 n0 Z110 rfl (by decide) (by decide : 0 ≤ 4) H110 (by decide : 0 ≠ 4) hp4 hp5 hp3 ge101 ge_ap ge_an) hZ (hw _ (List.mem_of_getElem? (i := 31) rfl)) (hw _ (List.mem_of_getElem? (i := 2) rfl)) (by decide) (by decide)) q112a q112c (g := (mkF m 108 #[.val (.int xa), .val (.int xb), .val (.int xc), .val (.int xd), .val (.int xe), .val (.int xk), .val (.ref b101), .val (.int xn), .val (.int (0 : Int32)), .val (.int xdd), .val (.int xee), .unset] [(.ref b101)])) rfl (by rw [hml]; rfl) (Steps.refl _) (argsL := []) (rest := []) (lenOf pd_4 rfl) rfl (by show 2 * 0 + _ ≤ _; exact Nat.le_of_eq rfl) (hb hby at_108) (fun _ _ => ⟨rfl, e110, (by decide : 3 + 1 ≤ _), (by decide : 11 + 4 ≤ _)⟩)
          dsimp only [Pt.U, Pt.locs, Pt.cells, Pt.slots] at X112 l112 y112 z112 st112 hQ112
          subst l112 y112 z112
          obtain ⟨h112, e112⟩ : ∃ z, T112.heap = z := ⟨_, rfl⟩
          rw [e112] at hQ112
          obtain ⟨atk, rfl, Nq112, Kq112, hgt, hlt, A112, H112⟩ := hQ112
          have N112 := Fr.app N110 Nq112
          have Z112 : n0 ≤ h112.size := Nat.le_trans Z110 Kq112.1
          have f113 := f111.keep Kq112
          have ne114 : b101 ≠ atk := Nat.ne_of_lt (Nat.lt_of_lt_of_le f111.lt hgt)
          have ge115 : n0 ≤ atk := Nat.le_trans Zo2 hgt
          refine W.s3 (mkF m 111 #[.val (.int xa), .val (.int xb), .val (.int xc), .val (.int xd), .val (.int xe), .val (.int xk), .val (.ref b101), .val (.int xn), .val (.int (0 : Int32)), .val (.int xdd), .val (.int xee), .unset] [(.ref atk)]) st112 ?_
          refine W.s1 (mkF m 113 #[.val (.int xa), .val (.int xb), .val (.int xc), .val (.int xd), .val (.int xe), .val (.int xk), .val (.ref b101), .val (.int xn), .val (.int (0 : Int32)), .val (.int xdd), .val (.int xee), .val (.ref atk)] []) (fun _ kx_ => XS.astore X112.here hx rfl (hb hby at_111) rfl rfl (l' := #[.val (.int xa), .val (.int xb), .val (.int xc), .val (.int xd), .val (.int xe), .val (.int xk), .val (.ref b101), .val (.int xn), .val (.int (0 : Int32)), .val (.int xdd), .val (.int xee), .val (.ref atk)]) rfl kx_) ?_
          refine W.s1 (mkF m 115 #[.val (.int xa), .val (.int xb), .val (.int xc), .val (.int xd), .val (.int xe), .val (.int xk), .val (.ref b101), .val (.int xn), .val (.int (0 : Int32)), .val (.int xdd), .val (.int xee), .val (.ref atk)] [(.int (0 : Int32))]) (fun _ kx_ => XS.iload X112.here hx rfl (hb hby at_113) rfl kx_) ?_
          refine W.ifc X112 hx (hb hby at_115) (pc' := 130) (pc'' := 118) (by decide) (by decide) rfl (fun (c115 : ¬ (0 : Int32) = (0 : Int32)) => ?_) (fun (c115 : (0 : Int32) = (0 : Int32)) => ?_)
          · exact absurd c115 (by decide)
          · refine W.s1 (mkF m 120 #[.val (.int xa), .val (.int xb), .val (.int xc), .val (.int xd), .val (.int xe), .val (.int xk), .val (.ref b101), .val (.int xn), .val (.int (0 : Int32)), .val (.int xdd), .val (.int xee), .val (.ref atk)] [(.ref atk)]) (fun _ kx_ => XS.aload X112.here hx rfl (hb hby at_118) rfl rfl kx_) ?_
            refine W.alen X112 hx hZ e112 A112 (z := (0 : Int32)) rfl (hb hby at_120) (pc' := 121) rfl ?_
            refine W.ifc X112 hx (hb hby at_121) (pc' := 128) (pc'' := 124) (by decide) (by decide) rfl (fun (c121 : ¬ (0 : Int32) = (0 : Int32)) => ?_) (fun (c121 : (0 : Int32) = (0 : Int32)) => ?_)
            · exact absurd c121 (by decide)
            · refine W.s1 (mkF m 125 #[.val (.int xa), .val (.int xb), .val (.int xc), .val (.int xd), .val (.int xe), .val (.int xk), .val (.ref b101), .val (.int xn), .val (.int (0 : Int32)), .val (.int xdd), .val (.int xee), .val (.ref atk)] [(.int (1 : Int32))]) (fun _ kx_ => XS.iconst X112.here hx rfl (hb hby at_124) kx_) ?_
              refine W.s1 (mkF m 129 #[.val (.int xa), .val (.int xb), .val (.int xc), .val (.int xd), .val (.int xe), .val (.int xk), .val (.ref b101), .val (.int xn), .val (.int (0 : Int32)), .val (.int xdd), .val (.int xee), .val (.ref atk)] [(.int (1 : Int32))]) (fun _ kx_ => XS.goto X112.here hx rfl (pc0 := 125) (pc' := 129) rfl (hb hby at_125) (by decide) (by decide) kx_) ?_
              exact W.retZ X112 hx hlk (t := .boolean) (z' := (1 : Int32)) Bd.returns (by simp) (hb hby at_129) rfl (by show Q0 Z xa xb xc xd xe xk h0 n0 _ T112.heap _; rw [e112]; exact ⟨rfl, N112⟩) (by decide) (by decide)
        · exact absurd c96 (by decide)
      · exact absurd c83 (by decide)
    · refine W.s1 (mkF m 83 #[.val (.int xa), .val (.int xb), .val (.int xc), .val (.int xd), .val (.int xe), .val (.int xk), .val (.ref b101), .val (.int xn), .val (.int (1 : Int32)), .val (.int xdd), .val (.int xee), .unset] [(.int (1 : Int32))]) (fun _ kx_ => XS.iload X110.here hx rfl (hb hby at_81) rfl kx_) ?_
      refine W.ifc X110 hx (hb hby at_83) (pc' := 93) (pc'' := 86) (by decide) (by decide) rfl (fun (c83 : ¬ (0 : Int32) < (1 : Int32)) => ?_) (fun (c83 : (0 : Int32) < (1 : Int32)) => ?_)
      · exact absurd c83 (by decide)
      · refine W.s1 (mkF m 88 #[.val (.int xa), .val (.int xb), .val (.int xc), .val (.int xd), .val (.int xe), .val (.int xk), .val (.ref b101), .val (.int xn), .val (.int (1 : Int32)), .val (.int xdd), .val (.int xee), .unset] [(.ref b101)]) (fun _ kx_ => XS.aload X110.here hx rfl (hb hby at_86) rfl rfl kx_) ?_
        refine W.s1 (mkF m 90 #[.val (.int xa), .val (.int xb), .val (.int xc), .val (.int xd), .val (.int xe), .val (.int xk), .val (.ref b101), .val (.int xn), .val (.int (1 : Int32)), .val (.int xdd), .val (.int xee), .unset] [(.int xdd), (.ref b101)]) (fun _ kx_ => XS.iload X110.here hx rfl (hb hby at_88) rfl kx_) ?_
        obtain ⟨cq116, kq116, q116a, q116b, q116c⟩ := isOf hZ e110 f111
        obtain ⟨_, _, ⟨T116, L116, k116, n116⟩, -, X116, ⟨Lc116, hQ116, l116, y116, z116⟩, st116⟩ := X110.virtualBack hx (y := (⟨"com/example/tempora/tempora/NotedPoints", "note", "(I)V"⟩ : MethodName)) (z := (⟨"com/example/tempora/tempora/NotedPoints", "note", "(I)V"⟩ : MethodName)) hown (mvT hZ (hw _ (List.mem_of_getElem? (i := 15) rfl))) (mvT hZ (hw _ (List.mem_of_getElem? (i := 16) rfl))) (notFace_of_selects (args := #[]) (mvT hZ (hw _ (List.mem_of_getElem? (i := 18) rfl)))) (mvT hZ (hw _ (List.mem_of_getElem? (i := 18) rfl))) (mvT hZ (hw _ (List.mem_of_getElem? (i := 17) rfl))) (by decide) (backOf (W := 0) (rm3 l Z a0 hw [] b101 xdd ap an 4 (4 : Int32) [] kd h110 n0 Z110 rfl (by decide) H110 hkd hld (Or.inr (by first | decide | simp)) hp4 hp5 hp3 ge101 ge_ap ge_an) hZ (hw _ (List.mem_of_getElem? (i := 19) rfl)) (hw _ (List.mem_of_getElem? (i := 2) rfl)) (by decide) (by decide)) q116a q116c (g := (mkF m 90 #[.val (.int xa), .val (.int xb), .val (.int xc), .val (.int xd), .val (.int xe), .val (.int xk), .val (.ref b101), .val (.int xn), .val (.int (1 : Int32)), .val (.int xdd), .val (.int xee), .unset] [(.int xdd), (.ref b101)])) rfl (by rw [hml]; rfl) (Steps.refl _) (argsL := [(.int xdd)]) (rest := []) (lenOf pd_3 rfl) rfl (by show 2 * 0 + _ ≤ _; exact Nat.le_of_eq rfl) (hb hby at_90) (fun _ _ => ⟨rfl, e110, (by decide : 3 + 0 ≤ _), (by decide : 11 + 0 ≤ _)⟩)
        dsimp only [Pt.U, Pt.locs, Pt.cells, Pt.slots] at X116 l116 y116 z116 st116 hQ116
        subst l116 y116 z116
        obtain ⟨h116, e116⟩ : ∃ z, T116.heap = z := ⟨_, rfl⟩
        rw [e116] at hQ116
        obtain ⟨rfl, Nq116, Kq116, hz116⟩ := hQ116
        have N116 := Fr.app N110 Nq116
        have Z116 : n0 ≤ h116.size := Nat.le_trans Z110 Kq116.1
        have f117 := f111.keep Kq116
        have H116 : own_NP Z h116 b101 ap an 4 [xdd] := hz116.elim (fun q => absurd q.1 List.not_mem_nil) (fun q => q.2)
        refine W.s3 (mkF m 93 #[.val (.int xa), .val (.int xb), .val (.int xc), .val (.int xd), .val (.int xe), .val (.int xk), .val (.ref b101), .val (.int xn), .val (.int (1 : Int32)), .val (.int xdd), .val (.int xee), .unset] []) st116 ?_
        refine W.s1 (mkF m 95 #[.val (.int xa), .val (.int xb), .val (.int xc), .val (.int xd), .val (.int xe), .val (.int xk), .val (.ref b101), .val (.int xn), .val (.int (1 : Int32)), .val (.int xdd), .val (.int xee), .unset] [(.int (1 : Int32))]) (fun _ kx_ => XS.iload X116.here hx rfl (hb hby at_93) rfl kx_) ?_
        refine W.s1 (mkF m 96 #[.val (.int xa), .val (.int xb), .val (.int xc), .val (.int xd), .val (.int xe), .val (.int xk), .val (.ref b101), .val (.int xn), .val (.int (1 : Int32)), .val (.int xdd), .val (.int xee), .unset] [(.int (1 : Int32)), (.int (1 : Int32))]) (fun _ kx_ => XS.iconst X116.here hx rfl (hb hby at_95) kx_) ?_
        refine W.icmp X116 hx (hb hby at_96) (pc' := 106) (pc'' := 99) (by decide) (by decide) rfl (fun (c96 : ¬ (1 : Int32) < (1 : Int32)) => ?_) (fun (c96 : (1 : Int32) < (1 : Int32)) => ?_)
        · refine W.s1 (mkF m 108 #[.val (.int xa), .val (.int xb), .val (.int xc), .val (.int xd), .val (.int xe), .val (.int xk), .val (.ref b101), .val (.int xn), .val (.int (1 : Int32)), .val (.int xdd), .val (.int xee), .unset] [(.ref b101)]) (fun _ kx_ => XS.aload X116.here hx rfl (hb hby at_106) rfl rfl kx_) ?_
          have Zo2 := Z116
          obtain ⟨cq118, kq118, q118a, q118b, q118c⟩ := isOf hZ e116 f117
          obtain ⟨_, _, ⟨T118, L118, k118, n118⟩, -, X118, ⟨Lc118, hQ118, l118, y118, z118⟩, st118⟩ := X116.virtualBack hx (y := (⟨"com/example/tempora/tempora/NotedPoints", "take", "()[I"⟩ : MethodName)) (z := (⟨"com/example/tempora/tempora/NotedPoints", "take", "()[I"⟩ : MethodName)) hown (mvT hZ (hw _ (List.mem_of_getElem? (i := 27) rfl))) (mvT hZ (hw _ (List.mem_of_getElem? (i := 28) rfl))) (notFace_of_selects (args := #[]) (mvT hZ (hw _ (List.mem_of_getElem? (i := 30) rfl)))) (mvT hZ (hw _ (List.mem_of_getElem? (i := 30) rfl))) (mvT hZ (hw _ (List.mem_of_getElem? (i := 29) rfl))) (by decide) (backOf (W := 0) (rm5 l Z a0 hw [] b101 ap an 4 (4 : Int32) [xdd] h116 n0 Z116 rfl (by decide) (by decide : 1 ≤ 4) H116 (by decide : 1 ≠ 4) hp4 hp5 hp3 ge101 ge_ap ge_an) hZ (hw _ (List.mem_of_getElem? (i := 31) rfl)) (hw _ (List.mem_of_getElem? (i := 2) rfl)) (by decide) (by decide)) q118a q118c (g := (mkF m 108 #[.val (.int xa), .val (.int xb), .val (.int xc), .val (.int xd), .val (.int xe), .val (.int xk), .val (.ref b101), .val (.int xn), .val (.int (1 : Int32)), .val (.int xdd), .val (.int xee), .unset] [(.ref b101)])) rfl (by rw [hml]; rfl) (Steps.refl _) (argsL := []) (rest := []) (lenOf pd_4 rfl) rfl (by show 2 * 0 + _ ≤ _; exact Nat.le_of_eq rfl) (hb hby at_108) (fun _ _ => ⟨rfl, e116, (by decide : 3 + 1 ≤ _), (by decide : 11 + 4 ≤ _)⟩)
          dsimp only [Pt.U, Pt.locs, Pt.cells, Pt.slots] at X118 l118 y118 z118 st118 hQ118
          subst l118 y118 z118
          obtain ⟨h118, e118⟩ : ∃ z, T118.heap = z := ⟨_, rfl⟩
          rw [e118] at hQ118
          obtain ⟨atk, rfl, Nq118, Kq118, hgt, hlt, A118, H118⟩ := hQ118
          have N118 := Fr.app N116 Nq118
          have Z118 : n0 ≤ h118.size := Nat.le_trans Z116 Kq118.1
          have f119 := f117.keep Kq118
          have ne120 : b101 ≠ atk := Nat.ne_of_lt (Nat.lt_of_lt_of_le f117.lt hgt)
          have ge121 : n0 ≤ atk := Nat.le_trans Zo2 hgt
          refine W.s3 (mkF m 111 #[.val (.int xa), .val (.int xb), .val (.int xc), .val (.int xd), .val (.int xe), .val (.int xk), .val (.ref b101), .val (.int xn), .val (.int (1 : Int32)), .val (.int xdd), .val (.int xee), .unset] [(.ref atk)]) st118 ?_
          refine W.s1 (mkF m 113 #[.val (.int xa), .val (.int xb), .val (.int xc), .val (.int xd), .val (.int xe), .val (.int xk), .val (.ref b101), .val (.int xn), .val (.int (1 : Int32)), .val (.int xdd), .val (.int xee), .val (.ref atk)] []) (fun _ kx_ => XS.astore X118.here hx rfl (hb hby at_111) rfl rfl (l' := #[.val (.int xa), .val (.int xb), .val (.int xc), .val (.int xd), .val (.int xe), .val (.int xk), .val (.ref b101), .val (.int xn), .val (.int (1 : Int32)), .val (.int xdd), .val (.int xee), .val (.ref atk)]) rfl kx_) ?_
          refine W.s1 (mkF m 115 #[.val (.int xa), .val (.int xb), .val (.int xc), .val (.int xd), .val (.int xe), .val (.int xk), .val (.ref b101), .val (.int xn), .val (.int (1 : Int32)), .val (.int xdd), .val (.int xee), .val (.ref atk)] [(.int (1 : Int32))]) (fun _ kx_ => XS.iload X118.here hx rfl (hb hby at_113) rfl kx_) ?_
          refine W.ifc X118 hx (hb hby at_115) (pc' := 130) (pc'' := 118) (by decide) (by decide) rfl (fun (c115 : ¬ (1 : Int32) = (0 : Int32)) => ?_) (fun (c115 : (1 : Int32) = (0 : Int32)) => ?_)
          · refine W.s1 (mkF m 132 #[.val (.int xa), .val (.int xb), .val (.int xc), .val (.int xd), .val (.int xe), .val (.int xk), .val (.ref b101), .val (.int xn), .val (.int (1 : Int32)), .val (.int xdd), .val (.int xee), .val (.ref atk)] [(.int (1 : Int32))]) (fun _ kx_ => XS.iload X118.here hx rfl (hb hby at_130) rfl kx_) ?_
            refine W.s1 (mkF m 133 #[.val (.int xa), .val (.int xb), .val (.int xc), .val (.int xd), .val (.int xe), .val (.int xk), .val (.ref b101), .val (.int xn), .val (.int (1 : Int32)), .val (.int xdd), .val (.int xee), .val (.ref atk)] [(.int (1 : Int32)), (.int (1 : Int32))]) (fun _ kx_ => XS.iconst X118.here hx rfl (hb hby at_132) kx_) ?_
            refine W.icmp X118 hx (hb hby at_133) (pc' := 143) (pc'' := 136) (by decide) (by decide) rfl (fun (c133 : (1 : Int32) = (1 : Int32)) => ?_) (fun (c133 : ¬ (1 : Int32) = (1 : Int32)) => ?_)
            · refine W.s1 (mkF m 145 #[.val (.int xa), .val (.int xb), .val (.int xc), .val (.int xd), .val (.int xe), .val (.int xk), .val (.ref b101), .val (.int xn), .val (.int (1 : Int32)), .val (.int xdd), .val (.int xee), .val (.ref atk)] [(.ref atk)]) (fun _ kx_ => XS.aload X118.here hx rfl (hb hby at_143) rfl rfl kx_) ?_
              refine W.alen X118 hx hZ e118 A118 (z := (1 : Int32)) rfl (hb hby at_145) (pc' := 146) rfl ?_
              refine W.s1 (mkF m 147 #[.val (.int xa), .val (.int xb), .val (.int xc), .val (.int xd), .val (.int xe), .val (.int xk), .val (.ref b101), .val (.int xn), .val (.int (1 : Int32)), .val (.int xdd), .val (.int xee), .val (.ref atk)] [(.int (1 : Int32)), (.int (1 : Int32))]) (fun _ kx_ => XS.iconst X118.here hx rfl (hb hby at_146) kx_) ?_
              refine W.icmp X118 hx (hb hby at_147) (pc' := 163) (pc'' := 150) (by decide) (by decide) rfl (fun (c147 : ¬ (1 : Int32) = (1 : Int32)) => ?_) (fun (c147 : (1 : Int32) = (1 : Int32)) => ?_)
              · exact absurd c147 (by decide)
              · refine W.s1 (mkF m 152 #[.val (.int xa), .val (.int xb), .val (.int xc), .val (.int xd), .val (.int xe), .val (.int xk), .val (.ref b101), .val (.int xn), .val (.int (1 : Int32)), .val (.int xdd), .val (.int xee), .val (.ref atk)] [(.ref atk)]) (fun _ kx_ => XS.aload X118.here hx rfl (hb hby at_150) rfl rfl kx_) ?_
                refine W.s1 (mkF m 153 #[.val (.int xa), .val (.int xb), .val (.int xc), .val (.int xd), .val (.int xe), .val (.int xk), .val (.ref b101), .val (.int xn), .val (.int (1 : Int32)), .val (.int xdd), .val (.int xee), .val (.ref atk)] [(.int (0 : Int32)), (.ref atk)]) (fun _ kx_ => XS.iconst X118.here hx rfl (hb hby at_152) kx_) ?_
                refine W.ldi X118 hx hZ e118 A118 0 rfl (by first | decide | simp) (hb hby at_153) (pc' := 154) rfl ?_
                try rw [show ([xdd].getD 0 0) = xdd from rfl]
                refine W.s1 (mkF m 156 #[.val (.int xa), .val (.int xb), .val (.int xc), .val (.int xd), .val (.int xe), .val (.int xk), .val (.ref b101), .val (.int xn), .val (.int (1 : Int32)), .val (.int xdd), .val (.int xee), .val (.ref atk)] [(.int xdd), (.int xdd)]) (fun _ kx_ => XS.iload X118.here hx rfl (hb hby at_154) rfl kx_) ?_
                refine W.icmp X118 hx (hb hby at_156) (pc' := 163) (pc'' := 159) (by decide) (by decide) rfl (fun (c156 : ¬ xdd = xdd) => ?_) (fun (c156 : xdd = xdd) => ?_)
                · exact absurd rfl c156
                · refine W.s1 (mkF m 160 #[.val (.int xa), .val (.int xb), .val (.int xc), .val (.int xd), .val (.int xe), .val (.int xk), .val (.ref b101), .val (.int xn), .val (.int (1 : Int32)), .val (.int xdd), .val (.int xee), .val (.ref atk)] [(.int (1 : Int32))]) (fun _ kx_ => XS.iconst X118.here hx rfl (hb hby at_159) kx_) ?_
                  refine W.s1 (mkF m 164 #[.val (.int xa), .val (.int xb), .val (.int xc), .val (.int xd), .val (.int xe), .val (.int xk), .val (.ref b101), .val (.int xn), .val (.int (1 : Int32)), .val (.int xdd), .val (.int xee), .val (.ref atk)] [(.int (1 : Int32))]) (fun _ kx_ => XS.goto X118.here hx rfl (pc0 := 160) (pc' := 164) rfl (hb hby at_160) (by decide) (by decide) kx_) ?_
                  exact W.retZ X118 hx hlk (t := .boolean) (z' := (1 : Int32)) Bd.returns (by simp) (hb hby at_164) rfl (by show Q0 Z xa xb xc xd xe xk h0 n0 _ T118.heap _; rw [e118]; exact ⟨rfl, N118⟩) (by decide) (by decide)
            · exact absurd c133 (by decide)
          · exact absurd c115 (by decide)
        · exact absurd c96 (by decide)
    · refine W.s1 (mkF m 83 #[.val (.int xa), .val (.int xb), .val (.int xc), .val (.int xd), .val (.int xe), .val (.int xk), .val (.ref b101), .val (.int xn), .val (.int (2 : Int32)), .val (.int xdd), .val (.int xee), .unset] [(.int (2 : Int32))]) (fun _ kx_ => XS.iload X110.here hx rfl (hb hby at_81) rfl kx_) ?_
      refine W.ifc X110 hx (hb hby at_83) (pc' := 93) (pc'' := 86) (by decide) (by decide) rfl (fun (c83 : ¬ (0 : Int32) < (2 : Int32)) => ?_) (fun (c83 : (0 : Int32) < (2 : Int32)) => ?_)
      · exact absurd c83 (by decide)
      · refine W.s1 (mkF m 88 #[.val (.int xa), .val (.int xb), .val (.int xc), .val (.int xd), .val (.int xe), .val (.int xk), .val (.ref b101), .val (.int xn), .val (.int (2 : Int32)), .val (.int xdd), .val (.int xee), .unset] [(.ref b101)]) (fun _ kx_ => XS.aload X110.here hx rfl (hb hby at_86) rfl rfl kx_) ?_
        refine W.s1 (mkF m 90 #[.val (.int xa), .val (.int xb), .val (.int xc), .val (.int xd), .val (.int xe), .val (.int xk), .val (.ref b101), .val (.int xn), .val (.int (2 : Int32)), .val (.int xdd), .val (.int xee), .unset] [(.int xdd), (.ref b101)]) (fun _ kx_ => XS.iload X110.here hx rfl (hb hby at_88) rfl kx_) ?_
        obtain ⟨cq122, kq122, q122a, q122b, q122c⟩ := isOf hZ e110 f111
        obtain ⟨_, _, ⟨T122, L122, k122, n122⟩, -, X122, ⟨Lc122, hQ122, l122, y122, z122⟩, st122⟩ := X110.virtualBack hx (y := (⟨"com/example/tempora/tempora/NotedPoints", "note", "(I)V"⟩ : MethodName)) (z := (⟨"com/example/tempora/tempora/NotedPoints", "note", "(I)V"⟩ : MethodName)) hown (mvT hZ (hw _ (List.mem_of_getElem? (i := 15) rfl))) (mvT hZ (hw _ (List.mem_of_getElem? (i := 16) rfl))) (notFace_of_selects (args := #[]) (mvT hZ (hw _ (List.mem_of_getElem? (i := 18) rfl)))) (mvT hZ (hw _ (List.mem_of_getElem? (i := 18) rfl))) (mvT hZ (hw _ (List.mem_of_getElem? (i := 17) rfl))) (by decide) (backOf (W := 0) (rm3 l Z a0 hw [] b101 xdd ap an 4 (4 : Int32) [] kd h110 n0 Z110 rfl (by decide) H110 hkd hld (Or.inr (by first | decide | simp)) hp4 hp5 hp3 ge101 ge_ap ge_an) hZ (hw _ (List.mem_of_getElem? (i := 19) rfl)) (hw _ (List.mem_of_getElem? (i := 2) rfl)) (by decide) (by decide)) q122a q122c (g := (mkF m 90 #[.val (.int xa), .val (.int xb), .val (.int xc), .val (.int xd), .val (.int xe), .val (.int xk), .val (.ref b101), .val (.int xn), .val (.int (2 : Int32)), .val (.int xdd), .val (.int xee), .unset] [(.int xdd), (.ref b101)])) rfl (by rw [hml]; rfl) (Steps.refl _) (argsL := [(.int xdd)]) (rest := []) (lenOf pd_3 rfl) rfl (by show 2 * 0 + _ ≤ _; exact Nat.le_of_eq rfl) (hb hby at_90) (fun _ _ => ⟨rfl, e110, (by decide : 3 + 0 ≤ _), (by decide : 11 + 0 ≤ _)⟩)
        dsimp only [Pt.U, Pt.locs, Pt.cells, Pt.slots] at X122 l122 y122 z122 st122 hQ122
        subst l122 y122 z122
        obtain ⟨h122, e122⟩ : ∃ z, T122.heap = z := ⟨_, rfl⟩
        rw [e122] at hQ122
        obtain ⟨rfl, Nq122, Kq122, hz122⟩ := hQ122
        have N122 := Fr.app N110 Nq122
        have Z122 : n0 ≤ h122.size := Nat.le_trans Z110 Kq122.1
        have f123 := f111.keep Kq122
        have H122 : own_NP Z h122 b101 ap an 4 [xdd] := hz122.elim (fun q => absurd q.1 List.not_mem_nil) (fun q => q.2)
        refine W.s3 (mkF m 93 #[.val (.int xa), .val (.int xb), .val (.int xc), .val (.int xd), .val (.int xe), .val (.int xk), .val (.ref b101), .val (.int xn), .val (.int (2 : Int32)), .val (.int xdd), .val (.int xee), .unset] []) st122 ?_
        refine W.s1 (mkF m 95 #[.val (.int xa), .val (.int xb), .val (.int xc), .val (.int xd), .val (.int xe), .val (.int xk), .val (.ref b101), .val (.int xn), .val (.int (2 : Int32)), .val (.int xdd), .val (.int xee), .unset] [(.int (2 : Int32))]) (fun _ kx_ => XS.iload X122.here hx rfl (hb hby at_93) rfl kx_) ?_
        refine W.s1 (mkF m 96 #[.val (.int xa), .val (.int xb), .val (.int xc), .val (.int xd), .val (.int xe), .val (.int xk), .val (.ref b101), .val (.int xn), .val (.int (2 : Int32)), .val (.int xdd), .val (.int xee), .unset] [(.int (1 : Int32)), (.int (2 : Int32))]) (fun _ kx_ => XS.iconst X122.here hx rfl (hb hby at_95) kx_) ?_
        refine W.icmp X122 hx (hb hby at_96) (pc' := 106) (pc'' := 99) (by decide) (by decide) rfl (fun (c96 : ¬ (1 : Int32) < (2 : Int32)) => ?_) (fun (c96 : (1 : Int32) < (2 : Int32)) => ?_)
        · exact absurd c96 (by decide)
        · refine W.s1 (mkF m 101 #[.val (.int xa), .val (.int xb), .val (.int xc), .val (.int xd), .val (.int xe), .val (.int xk), .val (.ref b101), .val (.int xn), .val (.int (2 : Int32)), .val (.int xdd), .val (.int xee), .unset] [(.ref b101)]) (fun _ kx_ => XS.aload X122.here hx rfl (hb hby at_99) rfl rfl kx_) ?_
          refine W.s1 (mkF m 103 #[.val (.int xa), .val (.int xb), .val (.int xc), .val (.int xd), .val (.int xe), .val (.int xk), .val (.ref b101), .val (.int xn), .val (.int (2 : Int32)), .val (.int xdd), .val (.int xee), .unset] [(.int xee), (.ref b101)]) (fun _ kx_ => XS.iload X122.here hx rfl (hb hby at_101) rfl kx_) ?_
          obtain ⟨cq124, kq124, q124a, q124b, q124c⟩ := isOf hZ e122 f123
          obtain ⟨_, _, ⟨T124, L124, k124, n124⟩, -, X124, ⟨Lc124, hQ124, l124, y124, z124⟩, st124⟩ := X122.virtualBack hx (y := (⟨"com/example/tempora/tempora/NotedPoints", "note", "(I)V"⟩ : MethodName)) (z := (⟨"com/example/tempora/tempora/NotedPoints", "note", "(I)V"⟩ : MethodName)) hown (mvT hZ (hw _ (List.mem_of_getElem? (i := 15) rfl))) (mvT hZ (hw _ (List.mem_of_getElem? (i := 16) rfl))) (notFace_of_selects (args := #[]) (mvT hZ (hw _ (List.mem_of_getElem? (i := 18) rfl)))) (mvT hZ (hw _ (List.mem_of_getElem? (i := 18) rfl))) (mvT hZ (hw _ (List.mem_of_getElem? (i := 17) rfl))) (by decide) (backOf (W := 0) (rm3 l Z a0 hw [] b101 xee ap an 4 (4 : Int32) [xdd] ke h122 n0 Z122 rfl (by decide) H122 hke hle (Or.inr (by first | decide | simp)) hp4 hp5 hp3 ge101 ge_ap ge_an) hZ (hw _ (List.mem_of_getElem? (i := 19) rfl)) (hw _ (List.mem_of_getElem? (i := 2) rfl)) (by decide) (by decide)) q124a q124c (g := (mkF m 103 #[.val (.int xa), .val (.int xb), .val (.int xc), .val (.int xd), .val (.int xe), .val (.int xk), .val (.ref b101), .val (.int xn), .val (.int (2 : Int32)), .val (.int xdd), .val (.int xee), .unset] [(.int xee), (.ref b101)])) rfl (by rw [hml]; rfl) (Steps.refl _) (argsL := [(.int xee)]) (rest := []) (lenOf pd_3 rfl) rfl (by show 2 * 0 + _ ≤ _; exact Nat.le_of_eq rfl) (hb hby at_103) (fun _ _ => ⟨rfl, e122, (by decide : 3 + 0 ≤ _), (by decide : 11 + 0 ≤ _)⟩)
          dsimp only [Pt.U, Pt.locs, Pt.cells, Pt.slots] at X124 l124 y124 z124 st124 hQ124
          subst l124 y124 z124
          obtain ⟨h124, e124⟩ : ∃ z, T124.heap = z := ⟨_, rfl⟩
          rw [e124] at hQ124
          obtain ⟨rfl, Nq124, Kq124, hz124⟩ := hQ124
          have N124 := Fr.app N122 Nq124
          have Z124 : n0 ≤ h124.size := Nat.le_trans Z122 Kq124.1
          have f125 := f123.keep Kq124
          refine W.s3 (mkF m 106 #[.val (.int xa), .val (.int xb), .val (.int xc), .val (.int xd), .val (.int xe), .val (.int xk), .val (.ref b101), .val (.int xn), .val (.int (2 : Int32)), .val (.int xdd), .val (.int xee), .unset] []) st124 ?_
          rcases hz124 with hz124 | hz124
          · have hde : xdd = xee := (List.mem_singleton.mp hz124.1).symm
            have H124 := hz124.2
            refine W.s1 (mkF m 108 #[.val (.int xa), .val (.int xb), .val (.int xc), .val (.int xd), .val (.int xe), .val (.int xk), .val (.ref b101), .val (.int xn), .val (.int (2 : Int32)), .val (.int xdd), .val (.int xee), .unset] [(.ref b101)]) (fun _ kx_ => XS.aload X124.here hx rfl (hb hby at_106) rfl rfl kx_) ?_
            have Zo2 := Z124
            obtain ⟨cq126, kq126, q126a, q126b, q126c⟩ := isOf hZ e124 f125
            obtain ⟨_, _, ⟨T126, L126, k126, n126⟩, -, X126, ⟨Lc126, hQ126, l126, y126, z126⟩, st126⟩ := X124.virtualBack hx (y := (⟨"com/example/tempora/tempora/NotedPoints", "take", "()[I"⟩ : MethodName)) (z := (⟨"com/example/tempora/tempora/NotedPoints", "take", "()[I"⟩ : MethodName)) hown (mvT hZ (hw _ (List.mem_of_getElem? (i := 27) rfl))) (mvT hZ (hw _ (List.mem_of_getElem? (i := 28) rfl))) (notFace_of_selects (args := #[]) (mvT hZ (hw _ (List.mem_of_getElem? (i := 30) rfl)))) (mvT hZ (hw _ (List.mem_of_getElem? (i := 30) rfl))) (mvT hZ (hw _ (List.mem_of_getElem? (i := 29) rfl))) (by decide) (backOf (W := 0) (rm5 l Z a0 hw [] b101 ap an 4 (4 : Int32) [xdd] h124 n0 Z124 rfl (by decide) (by decide : 1 ≤ 4) H124 (by decide : 1 ≠ 4) hp4 hp5 hp3 ge101 ge_ap ge_an) hZ (hw _ (List.mem_of_getElem? (i := 31) rfl)) (hw _ (List.mem_of_getElem? (i := 2) rfl)) (by decide) (by decide)) q126a q126c (g := (mkF m 108 #[.val (.int xa), .val (.int xb), .val (.int xc), .val (.int xd), .val (.int xe), .val (.int xk), .val (.ref b101), .val (.int xn), .val (.int (2 : Int32)), .val (.int xdd), .val (.int xee), .unset] [(.ref b101)])) rfl (by rw [hml]; rfl) (Steps.refl _) (argsL := []) (rest := []) (lenOf pd_4 rfl) rfl (by show 2 * 0 + _ ≤ _; exact Nat.le_of_eq rfl) (hb hby at_108) (fun _ _ => ⟨rfl, e124, (by decide : 3 + 1 ≤ _), (by decide : 11 + 4 ≤ _)⟩)
            dsimp only [Pt.U, Pt.locs, Pt.cells, Pt.slots] at X126 l126 y126 z126 st126 hQ126
            subst l126 y126 z126
            obtain ⟨h126, e126⟩ : ∃ z, T126.heap = z := ⟨_, rfl⟩
            rw [e126] at hQ126
            obtain ⟨atk, rfl, Nq126, Kq126, hgt, hlt, A126, H126⟩ := hQ126
            have N126 := Fr.app N124 Nq126
            have Z126 : n0 ≤ h126.size := Nat.le_trans Z124 Kq126.1
            have f127 := f125.keep Kq126
            have ne128 : b101 ≠ atk := Nat.ne_of_lt (Nat.lt_of_lt_of_le f125.lt hgt)
            have ge129 : n0 ≤ atk := Nat.le_trans Zo2 hgt
            refine W.s3 (mkF m 111 #[.val (.int xa), .val (.int xb), .val (.int xc), .val (.int xd), .val (.int xe), .val (.int xk), .val (.ref b101), .val (.int xn), .val (.int (2 : Int32)), .val (.int xdd), .val (.int xee), .unset] [(.ref atk)]) st126 ?_
            refine W.s1 (mkF m 113 #[.val (.int xa), .val (.int xb), .val (.int xc), .val (.int xd), .val (.int xe), .val (.int xk), .val (.ref b101), .val (.int xn), .val (.int (2 : Int32)), .val (.int xdd), .val (.int xee), .val (.ref atk)] []) (fun _ kx_ => XS.astore X126.here hx rfl (hb hby at_111) rfl rfl (l' := #[.val (.int xa), .val (.int xb), .val (.int xc), .val (.int xd), .val (.int xe), .val (.int xk), .val (.ref b101), .val (.int xn), .val (.int (2 : Int32)), .val (.int xdd), .val (.int xee), .val (.ref atk)]) rfl kx_) ?_
            refine W.s1 (mkF m 115 #[.val (.int xa), .val (.int xb), .val (.int xc), .val (.int xd), .val (.int xe), .val (.int xk), .val (.ref b101), .val (.int xn), .val (.int (2 : Int32)), .val (.int xdd), .val (.int xee), .val (.ref atk)] [(.int (2 : Int32))]) (fun _ kx_ => XS.iload X126.here hx rfl (hb hby at_113) rfl kx_) ?_
            refine W.ifc X126 hx (hb hby at_115) (pc' := 130) (pc'' := 118) (by decide) (by decide) rfl (fun (c115 : ¬ (2 : Int32) = (0 : Int32)) => ?_) (fun (c115 : (2 : Int32) = (0 : Int32)) => ?_)
            · refine W.s1 (mkF m 132 #[.val (.int xa), .val (.int xb), .val (.int xc), .val (.int xd), .val (.int xe), .val (.int xk), .val (.ref b101), .val (.int xn), .val (.int (2 : Int32)), .val (.int xdd), .val (.int xee), .val (.ref atk)] [(.int (2 : Int32))]) (fun _ kx_ => XS.iload X126.here hx rfl (hb hby at_130) rfl kx_) ?_
              refine W.s1 (mkF m 133 #[.val (.int xa), .val (.int xb), .val (.int xc), .val (.int xd), .val (.int xe), .val (.int xk), .val (.ref b101), .val (.int xn), .val (.int (2 : Int32)), .val (.int xdd), .val (.int xee), .val (.ref atk)] [(.int (1 : Int32)), (.int (2 : Int32))]) (fun _ kx_ => XS.iconst X126.here hx rfl (hb hby at_132) kx_) ?_
              refine W.icmp X126 hx (hb hby at_133) (pc' := 143) (pc'' := 136) (by decide) (by decide) rfl (fun (c133 : (2 : Int32) = (1 : Int32)) => ?_) (fun (c133 : ¬ (2 : Int32) = (1 : Int32)) => ?_)
              · exact absurd c133 (by decide)
              · refine W.s1 (mkF m 138 #[.val (.int xa), .val (.int xb), .val (.int xc), .val (.int xd), .val (.int xe), .val (.int xk), .val (.ref b101), .val (.int xn), .val (.int (2 : Int32)), .val (.int xdd), .val (.int xee), .val (.ref atk)] [(.int xdd)]) (fun _ kx_ => XS.iload X126.here hx rfl (hb hby at_136) rfl kx_) ?_
                refine W.s1 (mkF m 140 #[.val (.int xa), .val (.int xb), .val (.int xc), .val (.int xd), .val (.int xe), .val (.int xk), .val (.ref b101), .val (.int xn), .val (.int (2 : Int32)), .val (.int xdd), .val (.int xee), .val (.ref atk)] [(.int xee), (.int xdd)]) (fun _ kx_ => XS.iload X126.here hx rfl (hb hby at_138) rfl kx_) ?_
                refine W.icmp X126 hx (hb hby at_140) (pc' := 165) (pc'' := 143) (by decide) (by decide) rfl (fun (c140 : ¬ xdd = xee) => ?_) (fun (c140 : xdd = xee) => ?_)
                · exact absurd hde c140
                · refine W.s1 (mkF m 145 #[.val (.int xa), .val (.int xb), .val (.int xc), .val (.int xd), .val (.int xe), .val (.int xk), .val (.ref b101), .val (.int xn), .val (.int (2 : Int32)), .val (.int xdd), .val (.int xee), .val (.ref atk)] [(.ref atk)]) (fun _ kx_ => XS.aload X126.here hx rfl (hb hby at_143) rfl rfl kx_) ?_
                  refine W.alen X126 hx hZ e126 A126 (z := (1 : Int32)) rfl (hb hby at_145) (pc' := 146) rfl ?_
                  refine W.s1 (mkF m 147 #[.val (.int xa), .val (.int xb), .val (.int xc), .val (.int xd), .val (.int xe), .val (.int xk), .val (.ref b101), .val (.int xn), .val (.int (2 : Int32)), .val (.int xdd), .val (.int xee), .val (.ref atk)] [(.int (1 : Int32)), (.int (1 : Int32))]) (fun _ kx_ => XS.iconst X126.here hx rfl (hb hby at_146) kx_) ?_
                  refine W.icmp X126 hx (hb hby at_147) (pc' := 163) (pc'' := 150) (by decide) (by decide) rfl (fun (c147 : ¬ (1 : Int32) = (1 : Int32)) => ?_) (fun (c147 : (1 : Int32) = (1 : Int32)) => ?_)
                  · exact absurd c147 (by decide)
                  · refine W.s1 (mkF m 152 #[.val (.int xa), .val (.int xb), .val (.int xc), .val (.int xd), .val (.int xe), .val (.int xk), .val (.ref b101), .val (.int xn), .val (.int (2 : Int32)), .val (.int xdd), .val (.int xee), .val (.ref atk)] [(.ref atk)]) (fun _ kx_ => XS.aload X126.here hx rfl (hb hby at_150) rfl rfl kx_) ?_
                    refine W.s1 (mkF m 153 #[.val (.int xa), .val (.int xb), .val (.int xc), .val (.int xd), .val (.int xe), .val (.int xk), .val (.ref b101), .val (.int xn), .val (.int (2 : Int32)), .val (.int xdd), .val (.int xee), .val (.ref atk)] [(.int (0 : Int32)), (.ref atk)]) (fun _ kx_ => XS.iconst X126.here hx rfl (hb hby at_152) kx_) ?_
                    refine W.ldi X126 hx hZ e126 A126 0 rfl (by first | decide | simp) (hb hby at_153) (pc' := 154) rfl ?_
                    try rw [show ([xdd].getD 0 0) = xdd from rfl]
                    refine W.s1 (mkF m 156 #[.val (.int xa), .val (.int xb), .val (.int xc), .val (.int xd), .val (.int xe), .val (.int xk), .val (.ref b101), .val (.int xn), .val (.int (2 : Int32)), .val (.int xdd), .val (.int xee), .val (.ref atk)] [(.int xdd), (.int xdd)]) (fun _ kx_ => XS.iload X126.here hx rfl (hb hby at_154) rfl kx_) ?_
                    refine W.icmp X126 hx (hb hby at_156) (pc' := 163) (pc'' := 159) (by decide) (by decide) rfl (fun (c156 : ¬ xdd = xdd) => ?_) (fun (c156 : xdd = xdd) => ?_)
                    · exact absurd rfl c156
                    · refine W.s1 (mkF m 160 #[.val (.int xa), .val (.int xb), .val (.int xc), .val (.int xd), .val (.int xe), .val (.int xk), .val (.ref b101), .val (.int xn), .val (.int (2 : Int32)), .val (.int xdd), .val (.int xee), .val (.ref atk)] [(.int (1 : Int32))]) (fun _ kx_ => XS.iconst X126.here hx rfl (hb hby at_159) kx_) ?_
                      refine W.s1 (mkF m 164 #[.val (.int xa), .val (.int xb), .val (.int xc), .val (.int xd), .val (.int xe), .val (.int xk), .val (.ref b101), .val (.int xn), .val (.int (2 : Int32)), .val (.int xdd), .val (.int xee), .val (.ref atk)] [(.int (1 : Int32))]) (fun _ kx_ => XS.goto X126.here hx rfl (pc0 := 160) (pc' := 164) rfl (hb hby at_160) (by decide) (by decide) kx_) ?_
                      exact W.retZ X126 hx hlk (t := .boolean) (z' := (1 : Int32)) Bd.returns (by simp) (hb hby at_164) rfl (by show Q0 Z xa xb xc xd xe xk h0 n0 _ T126.heap _; rw [e126]; exact ⟨rfl, N126⟩) (by decide) (by decide)
            · exact absurd c115 (by decide)
          · have hde : ¬ xdd = xee := fun q => hz124.1 (List.mem_singleton.mpr q.symm)
            have H124 := hz124.2
            refine W.s1 (mkF m 108 #[.val (.int xa), .val (.int xb), .val (.int xc), .val (.int xd), .val (.int xe), .val (.int xk), .val (.ref b101), .val (.int xn), .val (.int (2 : Int32)), .val (.int xdd), .val (.int xee), .unset] [(.ref b101)]) (fun _ kx_ => XS.aload X124.here hx rfl (hb hby at_106) rfl rfl kx_) ?_
            have Zo2 := Z124
            obtain ⟨cq130, kq130, q130a, q130b, q130c⟩ := isOf hZ e124 f125
            obtain ⟨_, _, ⟨T130, L130, k130, n130⟩, -, X130, ⟨Lc130, hQ130, l130, y130, z130⟩, st130⟩ := X124.virtualBack hx (y := (⟨"com/example/tempora/tempora/NotedPoints", "take", "()[I"⟩ : MethodName)) (z := (⟨"com/example/tempora/tempora/NotedPoints", "take", "()[I"⟩ : MethodName)) hown (mvT hZ (hw _ (List.mem_of_getElem? (i := 27) rfl))) (mvT hZ (hw _ (List.mem_of_getElem? (i := 28) rfl))) (notFace_of_selects (args := #[]) (mvT hZ (hw _ (List.mem_of_getElem? (i := 30) rfl)))) (mvT hZ (hw _ (List.mem_of_getElem? (i := 30) rfl))) (mvT hZ (hw _ (List.mem_of_getElem? (i := 29) rfl))) (by decide) (backOf (W := 0) (rm5 l Z a0 hw [] b101 ap an 4 (4 : Int32) [xdd, xee] h124 n0 Z124 rfl (by decide) (by decide : 2 ≤ 4) H124 (by decide : 2 ≠ 4) hp4 hp5 hp3 ge101 ge_ap ge_an) hZ (hw _ (List.mem_of_getElem? (i := 31) rfl)) (hw _ (List.mem_of_getElem? (i := 2) rfl)) (by decide) (by decide)) q130a q130c (g := (mkF m 108 #[.val (.int xa), .val (.int xb), .val (.int xc), .val (.int xd), .val (.int xe), .val (.int xk), .val (.ref b101), .val (.int xn), .val (.int (2 : Int32)), .val (.int xdd), .val (.int xee), .unset] [(.ref b101)])) rfl (by rw [hml]; rfl) (Steps.refl _) (argsL := []) (rest := []) (lenOf pd_4 rfl) rfl (by show 2 * 0 + _ ≤ _; exact Nat.le_of_eq rfl) (hb hby at_108) (fun _ _ => ⟨rfl, e124, (by decide : 3 + 1 ≤ _), (by decide : 11 + 4 ≤ _)⟩)
            dsimp only [Pt.U, Pt.locs, Pt.cells, Pt.slots] at X130 l130 y130 z130 st130 hQ130
            subst l130 y130 z130
            obtain ⟨h130, e130⟩ : ∃ z, T130.heap = z := ⟨_, rfl⟩
            rw [e130] at hQ130
            obtain ⟨atk, rfl, Nq130, Kq130, hgt, hlt, A130, H130⟩ := hQ130
            have N130 := Fr.app N124 Nq130
            have Z130 : n0 ≤ h130.size := Nat.le_trans Z124 Kq130.1
            have f131 := f125.keep Kq130
            have ne132 : b101 ≠ atk := Nat.ne_of_lt (Nat.lt_of_lt_of_le f125.lt hgt)
            have ge133 : n0 ≤ atk := Nat.le_trans Zo2 hgt
            refine W.s3 (mkF m 111 #[.val (.int xa), .val (.int xb), .val (.int xc), .val (.int xd), .val (.int xe), .val (.int xk), .val (.ref b101), .val (.int xn), .val (.int (2 : Int32)), .val (.int xdd), .val (.int xee), .unset] [(.ref atk)]) st130 ?_
            refine W.s1 (mkF m 113 #[.val (.int xa), .val (.int xb), .val (.int xc), .val (.int xd), .val (.int xe), .val (.int xk), .val (.ref b101), .val (.int xn), .val (.int (2 : Int32)), .val (.int xdd), .val (.int xee), .val (.ref atk)] []) (fun _ kx_ => XS.astore X130.here hx rfl (hb hby at_111) rfl rfl (l' := #[.val (.int xa), .val (.int xb), .val (.int xc), .val (.int xd), .val (.int xe), .val (.int xk), .val (.ref b101), .val (.int xn), .val (.int (2 : Int32)), .val (.int xdd), .val (.int xee), .val (.ref atk)]) rfl kx_) ?_
            refine W.s1 (mkF m 115 #[.val (.int xa), .val (.int xb), .val (.int xc), .val (.int xd), .val (.int xe), .val (.int xk), .val (.ref b101), .val (.int xn), .val (.int (2 : Int32)), .val (.int xdd), .val (.int xee), .val (.ref atk)] [(.int (2 : Int32))]) (fun _ kx_ => XS.iload X130.here hx rfl (hb hby at_113) rfl kx_) ?_
            refine W.ifc X130 hx (hb hby at_115) (pc' := 130) (pc'' := 118) (by decide) (by decide) rfl (fun (c115 : ¬ (2 : Int32) = (0 : Int32)) => ?_) (fun (c115 : (2 : Int32) = (0 : Int32)) => ?_)
            · refine W.s1 (mkF m 132 #[.val (.int xa), .val (.int xb), .val (.int xc), .val (.int xd), .val (.int xe), .val (.int xk), .val (.ref b101), .val (.int xn), .val (.int (2 : Int32)), .val (.int xdd), .val (.int xee), .val (.ref atk)] [(.int (2 : Int32))]) (fun _ kx_ => XS.iload X130.here hx rfl (hb hby at_130) rfl kx_) ?_
              refine W.s1 (mkF m 133 #[.val (.int xa), .val (.int xb), .val (.int xc), .val (.int xd), .val (.int xe), .val (.int xk), .val (.ref b101), .val (.int xn), .val (.int (2 : Int32)), .val (.int xdd), .val (.int xee), .val (.ref atk)] [(.int (1 : Int32)), (.int (2 : Int32))]) (fun _ kx_ => XS.iconst X130.here hx rfl (hb hby at_132) kx_) ?_
              refine W.icmp X130 hx (hb hby at_133) (pc' := 143) (pc'' := 136) (by decide) (by decide) rfl (fun (c133 : (2 : Int32) = (1 : Int32)) => ?_) (fun (c133 : ¬ (2 : Int32) = (1 : Int32)) => ?_)
              · exact absurd c133 (by decide)
              · refine W.s1 (mkF m 138 #[.val (.int xa), .val (.int xb), .val (.int xc), .val (.int xd), .val (.int xe), .val (.int xk), .val (.ref b101), .val (.int xn), .val (.int (2 : Int32)), .val (.int xdd), .val (.int xee), .val (.ref atk)] [(.int xdd)]) (fun _ kx_ => XS.iload X130.here hx rfl (hb hby at_136) rfl kx_) ?_
                refine W.s1 (mkF m 140 #[.val (.int xa), .val (.int xb), .val (.int xc), .val (.int xd), .val (.int xe), .val (.int xk), .val (.ref b101), .val (.int xn), .val (.int (2 : Int32)), .val (.int xdd), .val (.int xee), .val (.ref atk)] [(.int xee), (.int xdd)]) (fun _ kx_ => XS.iload X130.here hx rfl (hb hby at_138) rfl kx_) ?_
                refine W.icmp X130 hx (hb hby at_140) (pc' := 165) (pc'' := 143) (by decide) (by decide) rfl (fun (c140 : ¬ xdd = xee) => ?_) (fun (c140 : xdd = xee) => ?_)
                · refine W.s1 (mkF m 167 #[.val (.int xa), .val (.int xb), .val (.int xc), .val (.int xd), .val (.int xe), .val (.int xk), .val (.ref b101), .val (.int xn), .val (.int (2 : Int32)), .val (.int xdd), .val (.int xee), .val (.ref atk)] [(.ref atk)]) (fun _ kx_ => XS.aload X130.here hx rfl (hb hby at_165) rfl rfl kx_) ?_
                  refine W.alen X130 hx hZ e130 A130 (z := (2 : Int32)) rfl (hb hby at_167) (pc' := 168) rfl ?_
                  refine W.s1 (mkF m 169 #[.val (.int xa), .val (.int xb), .val (.int xc), .val (.int xd), .val (.int xe), .val (.int xk), .val (.ref b101), .val (.int xn), .val (.int (2 : Int32)), .val (.int xdd), .val (.int xee), .val (.ref atk)] [(.int (2 : Int32)), (.int (2 : Int32))]) (fun _ kx_ => XS.iconst X130.here hx rfl (hb hby at_168) kx_) ?_
                  refine W.icmp X130 hx (hb hby at_169) (pc' := 194) (pc'' := 172) (by decide) (by decide) rfl (fun (c169 : ¬ (2 : Int32) = (2 : Int32)) => ?_) (fun (c169 : (2 : Int32) = (2 : Int32)) => ?_)
                  · exact absurd c169 (by decide)
                  · refine W.s1 (mkF m 174 #[.val (.int xa), .val (.int xb), .val (.int xc), .val (.int xd), .val (.int xe), .val (.int xk), .val (.ref b101), .val (.int xn), .val (.int (2 : Int32)), .val (.int xdd), .val (.int xee), .val (.ref atk)] [(.ref atk)]) (fun _ kx_ => XS.aload X130.here hx rfl (hb hby at_172) rfl rfl kx_) ?_
                    refine W.s1 (mkF m 175 #[.val (.int xa), .val (.int xb), .val (.int xc), .val (.int xd), .val (.int xe), .val (.int xk), .val (.ref b101), .val (.int xn), .val (.int (2 : Int32)), .val (.int xdd), .val (.int xee), .val (.ref atk)] [(.int (0 : Int32)), (.ref atk)]) (fun _ kx_ => XS.iconst X130.here hx rfl (hb hby at_174) kx_) ?_
                    refine W.ldi X130 hx hZ e130 A130 0 rfl (by first | decide | simp) (hb hby at_175) (pc' := 176) rfl ?_
                    try rw [show ([xdd, xee].getD 0 0) = xdd from rfl]
                    refine W.s1 (mkF m 178 #[.val (.int xa), .val (.int xb), .val (.int xc), .val (.int xd), .val (.int xe), .val (.int xk), .val (.ref b101), .val (.int xn), .val (.int (2 : Int32)), .val (.int xdd), .val (.int xee), .val (.ref atk)] [(.int xdd), (.int xdd)]) (fun _ kx_ => XS.iload X130.here hx rfl (hb hby at_176) rfl kx_) ?_
                    refine W.icmp X130 hx (hb hby at_178) (pc' := 194) (pc'' := 181) (by decide) (by decide) rfl (fun (c178 : ¬ xdd = xdd) => ?_) (fun (c178 : xdd = xdd) => ?_)
                    · exact absurd rfl c178
                    · refine W.s1 (mkF m 183 #[.val (.int xa), .val (.int xb), .val (.int xc), .val (.int xd), .val (.int xe), .val (.int xk), .val (.ref b101), .val (.int xn), .val (.int (2 : Int32)), .val (.int xdd), .val (.int xee), .val (.ref atk)] [(.ref atk)]) (fun _ kx_ => XS.aload X130.here hx rfl (hb hby at_181) rfl rfl kx_) ?_
                      refine W.s1 (mkF m 184 #[.val (.int xa), .val (.int xb), .val (.int xc), .val (.int xd), .val (.int xe), .val (.int xk), .val (.ref b101), .val (.int xn), .val (.int (2 : Int32)), .val (.int xdd), .val (.int xee), .val (.ref atk)] [(.int (1 : Int32)), (.ref atk)]) (fun _ kx_ => XS.iconst X130.here hx rfl (hb hby at_183) kx_) ?_
                      refine W.ldi X130 hx hZ e130 A130 1 rfl (by first | decide | simp) (hb hby at_184) (pc' := 185) rfl ?_
                      try rw [show ([xdd, xee].getD 1 0) = xee from rfl]
                      refine W.s1 (mkF m 187 #[.val (.int xa), .val (.int xb), .val (.int xc), .val (.int xd), .val (.int xe), .val (.int xk), .val (.ref b101), .val (.int xn), .val (.int (2 : Int32)), .val (.int xdd), .val (.int xee), .val (.ref atk)] [(.int xee), (.int xee)]) (fun _ kx_ => XS.iload X130.here hx rfl (hb hby at_185) rfl kx_) ?_
                      refine W.icmp X130 hx (hb hby at_187) (pc' := 194) (pc'' := 190) (by decide) (by decide) rfl (fun (c187 : ¬ xee = xee) => ?_) (fun (c187 : xee = xee) => ?_)
                      · exact absurd rfl c187
                      · refine W.s1 (mkF m 191 #[.val (.int xa), .val (.int xb), .val (.int xc), .val (.int xd), .val (.int xe), .val (.int xk), .val (.ref b101), .val (.int xn), .val (.int (2 : Int32)), .val (.int xdd), .val (.int xee), .val (.ref atk)] [(.int (1 : Int32))]) (fun _ kx_ => XS.iconst X130.here hx rfl (hb hby at_190) kx_) ?_
                        refine W.s1 (mkF m 195 #[.val (.int xa), .val (.int xb), .val (.int xc), .val (.int xd), .val (.int xe), .val (.int xk), .val (.ref b101), .val (.int xn), .val (.int (2 : Int32)), .val (.int xdd), .val (.int xee), .val (.ref atk)] [(.int (1 : Int32))]) (fun _ kx_ => XS.goto X130.here hx rfl (pc0 := 191) (pc' := 195) rfl (hb hby at_191) (by decide) (by decide) kx_) ?_
                        exact W.retZ X130 hx hlk (t := .boolean) (z' := (1 : Int32)) Bd.returns (by simp) (hb hby at_195) rfl (by show Q0 Z xa xb xc xd xe xk h0 n0 _ T130.heap _; rw [e130]; exact ⟨rfl, N130⟩) (by decide) (by decide)
                · exact absurd c140 hde
            · exact absurd c115 (by decide)
  refine W.s1 (mkF m 18 #[.val (.int xa), .val (.int xb), .val (.int xc), .val (.int xd), .val (.int xe), .val (.int xk), .val (.ref b101), .val (.int xn), .unset, .unset, .unset, .unset] [(.int xn)]) (fun _ kx_ => XS.iload X105.here hx rfl (hb hby at_16) rfl kx_) ?_
  refine W.ifc X105 hx (hb hby at_18) (pc' := 29) (pc'' := 21) (by decide) (by decide) rfl (fun (c18 : ¬ (0 : Int32) < xn) => ?_) (fun (c18 : (0 : Int32) < xn) => ?_)
  · refine W.s1 (mkF m 31 #[.val (.int xa), .val (.int xb), .val (.int xc), .val (.int xd), .val (.int xe), .val (.int xk), .val (.ref b101), .val (.int xn), .unset, .unset, .unset, .unset] [(.int xn)]) (fun _ kx_ => XS.iload X105.here hx rfl (hb hby at_29) rfl kx_) ?_
    refine W.s1 (mkF m 32 #[.val (.int xa), .val (.int xb), .val (.int xc), .val (.int xd), .val (.int xe), .val (.int xk), .val (.ref b101), .val (.int xn), .unset, .unset, .unset, .unset] [(.int (1 : Int32)), (.int xn)]) (fun _ kx_ => XS.iconst X105.here hx rfl (hb hby at_31) kx_) ?_
    refine W.icmp X105 hx (hb hby at_32) (pc' := 43) (pc'' := 35) (by decide) (by decide) rfl (fun (c32 : ¬ (1 : Int32) < xn) => ?_) (fun (c32 : (1 : Int32) < xn) => ?_)
    · refine W.s1 (mkF m 45 #[.val (.int xa), .val (.int xb), .val (.int xc), .val (.int xd), .val (.int xe), .val (.int xk), .val (.ref b101), .val (.int xn), .unset, .unset, .unset, .unset] [(.int xn)]) (fun _ kx_ => XS.iload X105.here hx rfl (hb hby at_43) rfl kx_) ?_
      refine W.s1 (mkF m 46 #[.val (.int xa), .val (.int xb), .val (.int xc), .val (.int xd), .val (.int xe), .val (.int xk), .val (.ref b101), .val (.int xn), .unset, .unset, .unset, .unset] [(.int (2 : Int32)), (.int xn)]) (fun _ kx_ => XS.iconst X105.here hx rfl (hb hby at_45) kx_) ?_
      refine W.icmp X105 hx (hb hby at_46) (pc' := 57) (pc'' := 49) (by decide) (by decide) rfl (fun (c46 : ¬ (2 : Int32) < xn) => ?_) (fun (c46 : (2 : Int32) < xn) => ?_)
      · exact J57 _ _ _ _ X105 e105 N105 Z105 f106 H105 (by decide)
      · refine W.s1 (mkF m 51 #[.val (.int xa), .val (.int xb), .val (.int xc), .val (.int xd), .val (.int xe), .val (.int xk), .val (.ref b101), .val (.int xn), .unset, .unset, .unset, .unset] [(.ref b101)]) (fun _ kx_ => XS.aload X105.here hx rfl (hb hby at_49) rfl rfl kx_) ?_
        refine W.s1 (mkF m 52 #[.val (.int xa), .val (.int xb), .val (.int xc), .val (.int xd), .val (.int xe), .val (.int xk), .val (.ref b101), .val (.int xn), .unset, .unset, .unset, .unset] [(.int xc), (.ref b101)]) (fun _ kx_ => XS.iloadN X105.here hx rfl (hb hby at_51) rfl kx_) ?_
        refine W.s1 (mkF m 53 #[.val (.int xa), .val (.int xb), .val (.int xc), .val (.int xd), .val (.int xe), .val (.int xk), .val (.ref b101), .val (.int xn), .unset, .unset, .unset, .unset] [(.int (3 : Int32)), (.int xc), (.ref b101)]) (fun _ kx_ => XS.iconst X105.here hx rfl (hb hby at_52) kx_) ?_
        refine W.s1 (mkF m 54 #[.val (.int xa), .val (.int xb), .val (.int xc), .val (.int xd), .val (.int xe), .val (.int xk), .val (.ref b101), .val (.int xn), .unset, .unset, .unset, .unset] [(.int (xc &&& (3 : Int32))), (.ref b101)]) (fun _ kx_ => XS.iand X105.here hx rfl (hb hby at_53) rfl kx_) ?_
        obtain ⟨k_54, hk_54, hl_54⟩ := own_m4 xc
        obtain ⟨cq134, kq134, q134a, q134b, q134c⟩ := isOf hZ e105 f106
        obtain ⟨_, _, ⟨T134, L134, k134, n134⟩, -, X134, ⟨Lc134, hQ134, l134, y134, z134⟩, st134⟩ := X105.virtualBack hx (y := (⟨"com/example/tempora/tempora/NotedPoints", "note", "(I)V"⟩ : MethodName)) (z := (⟨"com/example/tempora/tempora/NotedPoints", "note", "(I)V"⟩ : MethodName)) hown (mvT hZ (hw _ (List.mem_of_getElem? (i := 15) rfl))) (mvT hZ (hw _ (List.mem_of_getElem? (i := 16) rfl))) (notFace_of_selects (args := #[]) (mvT hZ (hw _ (List.mem_of_getElem? (i := 18) rfl)))) (mvT hZ (hw _ (List.mem_of_getElem? (i := 18) rfl))) (mvT hZ (hw _ (List.mem_of_getElem? (i := 17) rfl))) (by decide) (backOf (W := 0) (rm3 l Z a0 hw [] b101 (xc &&& (3 : Int32)) ap an 4 (4 : Int32) [] k_54 h105 n0 Z105 rfl (by decide) H105 hk_54 hl_54 (Or.inr (by first | decide | simp)) hp4 hp5 hp3 ge101 ge_ap ge_an) hZ (hw _ (List.mem_of_getElem? (i := 19) rfl)) (hw _ (List.mem_of_getElem? (i := 2) rfl)) (by decide) (by decide)) q134a q134c (g := (mkF m 54 #[.val (.int xa), .val (.int xb), .val (.int xc), .val (.int xd), .val (.int xe), .val (.int xk), .val (.ref b101), .val (.int xn), .unset, .unset, .unset, .unset] [(.int (xc &&& (3 : Int32))), (.ref b101)])) rfl (by rw [hml]; rfl) (Steps.refl _) (argsL := [(.int (xc &&& (3 : Int32)))]) (rest := []) (lenOf pd_3 rfl) rfl (by show 2 * 0 + _ ≤ _; exact Nat.le_of_eq rfl) (hb hby at_54) (fun _ _ => ⟨rfl, e105, (by decide : 3 + 0 ≤ _), (by decide : 11 + 0 ≤ _)⟩)
        dsimp only [Pt.U, Pt.locs, Pt.cells, Pt.slots] at X134 l134 y134 z134 st134 hQ134
        subst l134 y134 z134
        obtain ⟨h134, e134⟩ : ∃ z, T134.heap = z := ⟨_, rfl⟩
        rw [e134] at hQ134
        obtain ⟨rfl, Nq134, Kq134, hz134⟩ := hQ134
        have N134 := Fr.app N105 Nq134
        have Z134 : n0 ≤ h134.size := Nat.le_trans Z105 Kq134.1
        have f135 := f106.keep Kq134
        obtain ⟨xs134, H134, hx134⟩ : ∃ ys, own_NP Z h134 b101 ap an 4 ys ∧ ys.length ≤ 1 := hz134.elim (fun q => ⟨_, q.2, by decide⟩) (fun q => ⟨_, q.2, by rw [own_len]; decide⟩)
        refine W.s3 (mkF m 57 #[.val (.int xa), .val (.int xb), .val (.int xc), .val (.int xd), .val (.int xe), .val (.int xk), .val (.ref b101), .val (.int xn), .unset, .unset, .unset, .unset] []) st134 ?_
        exact J57 _ _ _ _ X134 e134 N134 Z134 f135 H134 (by have := hx134; omega)
    · refine W.s1 (mkF m 37 #[.val (.int xa), .val (.int xb), .val (.int xc), .val (.int xd), .val (.int xe), .val (.int xk), .val (.ref b101), .val (.int xn), .unset, .unset, .unset, .unset] [(.ref b101)]) (fun _ kx_ => XS.aload X105.here hx rfl (hb hby at_35) rfl rfl kx_) ?_
      refine W.s1 (mkF m 38 #[.val (.int xa), .val (.int xb), .val (.int xc), .val (.int xd), .val (.int xe), .val (.int xk), .val (.ref b101), .val (.int xn), .unset, .unset, .unset, .unset] [(.int xb), (.ref b101)]) (fun _ kx_ => XS.iloadN X105.here hx rfl (hb hby at_37) rfl kx_) ?_
      refine W.s1 (mkF m 39 #[.val (.int xa), .val (.int xb), .val (.int xc), .val (.int xd), .val (.int xe), .val (.int xk), .val (.ref b101), .val (.int xn), .unset, .unset, .unset, .unset] [(.int (3 : Int32)), (.int xb), (.ref b101)]) (fun _ kx_ => XS.iconst X105.here hx rfl (hb hby at_38) kx_) ?_
      refine W.s1 (mkF m 40 #[.val (.int xa), .val (.int xb), .val (.int xc), .val (.int xd), .val (.int xe), .val (.int xk), .val (.ref b101), .val (.int xn), .unset, .unset, .unset, .unset] [(.int (xb &&& (3 : Int32))), (.ref b101)]) (fun _ kx_ => XS.iand X105.here hx rfl (hb hby at_39) rfl kx_) ?_
      obtain ⟨k_40, hk_40, hl_40⟩ := own_m4 xb
      obtain ⟨cq136, kq136, q136a, q136b, q136c⟩ := isOf hZ e105 f106
      obtain ⟨_, _, ⟨T136, L136, k136, n136⟩, -, X136, ⟨Lc136, hQ136, l136, y136, z136⟩, st136⟩ := X105.virtualBack hx (y := (⟨"com/example/tempora/tempora/NotedPoints", "note", "(I)V"⟩ : MethodName)) (z := (⟨"com/example/tempora/tempora/NotedPoints", "note", "(I)V"⟩ : MethodName)) hown (mvT hZ (hw _ (List.mem_of_getElem? (i := 15) rfl))) (mvT hZ (hw _ (List.mem_of_getElem? (i := 16) rfl))) (notFace_of_selects (args := #[]) (mvT hZ (hw _ (List.mem_of_getElem? (i := 18) rfl)))) (mvT hZ (hw _ (List.mem_of_getElem? (i := 18) rfl))) (mvT hZ (hw _ (List.mem_of_getElem? (i := 17) rfl))) (by decide) (backOf (W := 0) (rm3 l Z a0 hw [] b101 (xb &&& (3 : Int32)) ap an 4 (4 : Int32) [] k_40 h105 n0 Z105 rfl (by decide) H105 hk_40 hl_40 (Or.inr (by first | decide | simp)) hp4 hp5 hp3 ge101 ge_ap ge_an) hZ (hw _ (List.mem_of_getElem? (i := 19) rfl)) (hw _ (List.mem_of_getElem? (i := 2) rfl)) (by decide) (by decide)) q136a q136c (g := (mkF m 40 #[.val (.int xa), .val (.int xb), .val (.int xc), .val (.int xd), .val (.int xe), .val (.int xk), .val (.ref b101), .val (.int xn), .unset, .unset, .unset, .unset] [(.int (xb &&& (3 : Int32))), (.ref b101)])) rfl (by rw [hml]; rfl) (Steps.refl _) (argsL := [(.int (xb &&& (3 : Int32)))]) (rest := []) (lenOf pd_3 rfl) rfl (by show 2 * 0 + _ ≤ _; exact Nat.le_of_eq rfl) (hb hby at_40) (fun _ _ => ⟨rfl, e105, (by decide : 3 + 0 ≤ _), (by decide : 11 + 0 ≤ _)⟩)
      dsimp only [Pt.U, Pt.locs, Pt.cells, Pt.slots] at X136 l136 y136 z136 st136 hQ136
      subst l136 y136 z136
      obtain ⟨h136, e136⟩ : ∃ z, T136.heap = z := ⟨_, rfl⟩
      rw [e136] at hQ136
      obtain ⟨rfl, Nq136, Kq136, hz136⟩ := hQ136
      have N136 := Fr.app N105 Nq136
      have Z136 : n0 ≤ h136.size := Nat.le_trans Z105 Kq136.1
      have f137 := f106.keep Kq136
      obtain ⟨xs136, H136, hx136⟩ : ∃ ys, own_NP Z h136 b101 ap an 4 ys ∧ ys.length ≤ 1 := hz136.elim (fun q => ⟨_, q.2, by decide⟩) (fun q => ⟨_, q.2, by rw [own_len]; decide⟩)
      refine W.s3 (mkF m 43 #[.val (.int xa), .val (.int xb), .val (.int xc), .val (.int xd), .val (.int xe), .val (.int xk), .val (.ref b101), .val (.int xn), .unset, .unset, .unset, .unset] []) st136 ?_
      refine W.s1 (mkF m 45 #[.val (.int xa), .val (.int xb), .val (.int xc), .val (.int xd), .val (.int xe), .val (.int xk), .val (.ref b101), .val (.int xn), .unset, .unset, .unset, .unset] [(.int xn)]) (fun _ kx_ => XS.iload X136.here hx rfl (hb hby at_43) rfl kx_) ?_
      refine W.s1 (mkF m 46 #[.val (.int xa), .val (.int xb), .val (.int xc), .val (.int xd), .val (.int xe), .val (.int xk), .val (.ref b101), .val (.int xn), .unset, .unset, .unset, .unset] [(.int (2 : Int32)), (.int xn)]) (fun _ kx_ => XS.iconst X136.here hx rfl (hb hby at_45) kx_) ?_
      refine W.icmp X136 hx (hb hby at_46) (pc' := 57) (pc'' := 49) (by decide) (by decide) rfl (fun (c46 : ¬ (2 : Int32) < xn) => ?_) (fun (c46 : (2 : Int32) < xn) => ?_)
      · exact J57 _ _ _ _ X136 e136 N136 Z136 f137 H136 (by have := hx136; omega)
      · refine W.s1 (mkF m 51 #[.val (.int xa), .val (.int xb), .val (.int xc), .val (.int xd), .val (.int xe), .val (.int xk), .val (.ref b101), .val (.int xn), .unset, .unset, .unset, .unset] [(.ref b101)]) (fun _ kx_ => XS.aload X136.here hx rfl (hb hby at_49) rfl rfl kx_) ?_
        refine W.s1 (mkF m 52 #[.val (.int xa), .val (.int xb), .val (.int xc), .val (.int xd), .val (.int xe), .val (.int xk), .val (.ref b101), .val (.int xn), .unset, .unset, .unset, .unset] [(.int xc), (.ref b101)]) (fun _ kx_ => XS.iloadN X136.here hx rfl (hb hby at_51) rfl kx_) ?_
        refine W.s1 (mkF m 53 #[.val (.int xa), .val (.int xb), .val (.int xc), .val (.int xd), .val (.int xe), .val (.int xk), .val (.ref b101), .val (.int xn), .unset, .unset, .unset, .unset] [(.int (3 : Int32)), (.int xc), (.ref b101)]) (fun _ kx_ => XS.iconst X136.here hx rfl (hb hby at_52) kx_) ?_
        refine W.s1 (mkF m 54 #[.val (.int xa), .val (.int xb), .val (.int xc), .val (.int xd), .val (.int xe), .val (.int xk), .val (.ref b101), .val (.int xn), .unset, .unset, .unset, .unset] [(.int (xc &&& (3 : Int32))), (.ref b101)]) (fun _ kx_ => XS.iand X136.here hx rfl (hb hby at_53) rfl kx_) ?_
        obtain ⟨k_54, hk_54, hl_54⟩ := own_m4 xc
        obtain ⟨cq138, kq138, q138a, q138b, q138c⟩ := isOf hZ e136 f137
        obtain ⟨_, _, ⟨T138, L138, k138, n138⟩, -, X138, ⟨Lc138, hQ138, l138, y138, z138⟩, st138⟩ := X136.virtualBack hx (y := (⟨"com/example/tempora/tempora/NotedPoints", "note", "(I)V"⟩ : MethodName)) (z := (⟨"com/example/tempora/tempora/NotedPoints", "note", "(I)V"⟩ : MethodName)) hown (mvT hZ (hw _ (List.mem_of_getElem? (i := 15) rfl))) (mvT hZ (hw _ (List.mem_of_getElem? (i := 16) rfl))) (notFace_of_selects (args := #[]) (mvT hZ (hw _ (List.mem_of_getElem? (i := 18) rfl)))) (mvT hZ (hw _ (List.mem_of_getElem? (i := 18) rfl))) (mvT hZ (hw _ (List.mem_of_getElem? (i := 17) rfl))) (by decide) (backOf (W := 0) (rm3 l Z a0 hw [] b101 (xc &&& (3 : Int32)) ap an 4 (4 : Int32) xs136 k_54 h136 n0 Z136 rfl (by decide) H136 hk_54 hl_54 (Or.inr (by have := hx136; omega)) hp4 hp5 hp3 ge101 ge_ap ge_an) hZ (hw _ (List.mem_of_getElem? (i := 19) rfl)) (hw _ (List.mem_of_getElem? (i := 2) rfl)) (by decide) (by decide)) q138a q138c (g := (mkF m 54 #[.val (.int xa), .val (.int xb), .val (.int xc), .val (.int xd), .val (.int xe), .val (.int xk), .val (.ref b101), .val (.int xn), .unset, .unset, .unset, .unset] [(.int (xc &&& (3 : Int32))), (.ref b101)])) rfl (by rw [hml]; rfl) (Steps.refl _) (argsL := [(.int (xc &&& (3 : Int32)))]) (rest := []) (lenOf pd_3 rfl) rfl (by show 2 * 0 + _ ≤ _; exact Nat.le_of_eq rfl) (hb hby at_54) (fun _ _ => ⟨rfl, e136, (by decide : 3 + 0 ≤ _), (by decide : 11 + 0 ≤ _)⟩)
        dsimp only [Pt.U, Pt.locs, Pt.cells, Pt.slots] at X138 l138 y138 z138 st138 hQ138
        subst l138 y138 z138
        obtain ⟨h138, e138⟩ : ∃ z, T138.heap = z := ⟨_, rfl⟩
        rw [e138] at hQ138
        obtain ⟨rfl, Nq138, Kq138, hz138⟩ := hQ138
        have N138 := Fr.app N136 Nq138
        have Z138 : n0 ≤ h138.size := Nat.le_trans Z136 Kq138.1
        have f139 := f137.keep Kq138
        obtain ⟨xs138, H138, hx138⟩ : ∃ ys, own_NP Z h138 b101 ap an 4 ys ∧ ys.length ≤ 2 := hz138.elim (fun q => ⟨_, q.2, by have := hx136; omega⟩) (fun q => ⟨_, q.2, by rw [own_len]; have := hx136; omega⟩)
        refine W.s3 (mkF m 57 #[.val (.int xa), .val (.int xb), .val (.int xc), .val (.int xd), .val (.int xe), .val (.int xk), .val (.ref b101), .val (.int xn), .unset, .unset, .unset, .unset] []) st138 ?_
        exact J57 _ _ _ _ X138 e138 N138 Z138 f139 H138 (by have := hx138; omega)
  · refine W.s1 (mkF m 23 #[.val (.int xa), .val (.int xb), .val (.int xc), .val (.int xd), .val (.int xe), .val (.int xk), .val (.ref b101), .val (.int xn), .unset, .unset, .unset, .unset] [(.ref b101)]) (fun _ kx_ => XS.aload X105.here hx rfl (hb hby at_21) rfl rfl kx_) ?_
    refine W.s1 (mkF m 24 #[.val (.int xa), .val (.int xb), .val (.int xc), .val (.int xd), .val (.int xe), .val (.int xk), .val (.ref b101), .val (.int xn), .unset, .unset, .unset, .unset] [(.int xa), (.ref b101)]) (fun _ kx_ => XS.iloadN X105.here hx rfl (hb hby at_23) rfl kx_) ?_
    refine W.s1 (mkF m 25 #[.val (.int xa), .val (.int xb), .val (.int xc), .val (.int xd), .val (.int xe), .val (.int xk), .val (.ref b101), .val (.int xn), .unset, .unset, .unset, .unset] [(.int (3 : Int32)), (.int xa), (.ref b101)]) (fun _ kx_ => XS.iconst X105.here hx rfl (hb hby at_24) kx_) ?_
    refine W.s1 (mkF m 26 #[.val (.int xa), .val (.int xb), .val (.int xc), .val (.int xd), .val (.int xe), .val (.int xk), .val (.ref b101), .val (.int xn), .unset, .unset, .unset, .unset] [(.int (xa &&& (3 : Int32))), (.ref b101)]) (fun _ kx_ => XS.iand X105.here hx rfl (hb hby at_25) rfl kx_) ?_
    obtain ⟨k_26, hk_26, hl_26⟩ := own_m4 xa
    obtain ⟨cq140, kq140, q140a, q140b, q140c⟩ := isOf hZ e105 f106
    obtain ⟨_, _, ⟨T140, L140, k140, n140⟩, -, X140, ⟨Lc140, hQ140, l140, y140, z140⟩, st140⟩ := X105.virtualBack hx (y := (⟨"com/example/tempora/tempora/NotedPoints", "note", "(I)V"⟩ : MethodName)) (z := (⟨"com/example/tempora/tempora/NotedPoints", "note", "(I)V"⟩ : MethodName)) hown (mvT hZ (hw _ (List.mem_of_getElem? (i := 15) rfl))) (mvT hZ (hw _ (List.mem_of_getElem? (i := 16) rfl))) (notFace_of_selects (args := #[]) (mvT hZ (hw _ (List.mem_of_getElem? (i := 18) rfl)))) (mvT hZ (hw _ (List.mem_of_getElem? (i := 18) rfl))) (mvT hZ (hw _ (List.mem_of_getElem? (i := 17) rfl))) (by decide) (backOf (W := 0) (rm3 l Z a0 hw [] b101 (xa &&& (3 : Int32)) ap an 4 (4 : Int32) [] k_26 h105 n0 Z105 rfl (by decide) H105 hk_26 hl_26 (Or.inr (by first | decide | simp)) hp4 hp5 hp3 ge101 ge_ap ge_an) hZ (hw _ (List.mem_of_getElem? (i := 19) rfl)) (hw _ (List.mem_of_getElem? (i := 2) rfl)) (by decide) (by decide)) q140a q140c (g := (mkF m 26 #[.val (.int xa), .val (.int xb), .val (.int xc), .val (.int xd), .val (.int xe), .val (.int xk), .val (.ref b101), .val (.int xn), .unset, .unset, .unset, .unset] [(.int (xa &&& (3 : Int32))), (.ref b101)])) rfl (by rw [hml]; rfl) (Steps.refl _) (argsL := [(.int (xa &&& (3 : Int32)))]) (rest := []) (lenOf pd_3 rfl) rfl (by show 2 * 0 + _ ≤ _; exact Nat.le_of_eq rfl) (hb hby at_26) (fun _ _ => ⟨rfl, e105, (by decide : 3 + 0 ≤ _), (by decide : 11 + 0 ≤ _)⟩)
    dsimp only [Pt.U, Pt.locs, Pt.cells, Pt.slots] at X140 l140 y140 z140 st140 hQ140
    subst l140 y140 z140
    obtain ⟨h140, e140⟩ : ∃ z, T140.heap = z := ⟨_, rfl⟩
    rw [e140] at hQ140
    obtain ⟨rfl, Nq140, Kq140, hz140⟩ := hQ140
    have N140 := Fr.app N105 Nq140
    have Z140 : n0 ≤ h140.size := Nat.le_trans Z105 Kq140.1
    have f141 := f106.keep Kq140
    obtain ⟨xs140, H140, hx140⟩ : ∃ ys, own_NP Z h140 b101 ap an 4 ys ∧ ys.length ≤ 1 := hz140.elim (fun q => ⟨_, q.2, by decide⟩) (fun q => ⟨_, q.2, by rw [own_len]; decide⟩)
    refine W.s3 (mkF m 29 #[.val (.int xa), .val (.int xb), .val (.int xc), .val (.int xd), .val (.int xe), .val (.int xk), .val (.ref b101), .val (.int xn), .unset, .unset, .unset, .unset] []) st140 ?_
    refine W.s1 (mkF m 31 #[.val (.int xa), .val (.int xb), .val (.int xc), .val (.int xd), .val (.int xe), .val (.int xk), .val (.ref b101), .val (.int xn), .unset, .unset, .unset, .unset] [(.int xn)]) (fun _ kx_ => XS.iload X140.here hx rfl (hb hby at_29) rfl kx_) ?_
    refine W.s1 (mkF m 32 #[.val (.int xa), .val (.int xb), .val (.int xc), .val (.int xd), .val (.int xe), .val (.int xk), .val (.ref b101), .val (.int xn), .unset, .unset, .unset, .unset] [(.int (1 : Int32)), (.int xn)]) (fun _ kx_ => XS.iconst X140.here hx rfl (hb hby at_31) kx_) ?_
    refine W.icmp X140 hx (hb hby at_32) (pc' := 43) (pc'' := 35) (by decide) (by decide) rfl (fun (c32 : ¬ (1 : Int32) < xn) => ?_) (fun (c32 : (1 : Int32) < xn) => ?_)
    · refine W.s1 (mkF m 45 #[.val (.int xa), .val (.int xb), .val (.int xc), .val (.int xd), .val (.int xe), .val (.int xk), .val (.ref b101), .val (.int xn), .unset, .unset, .unset, .unset] [(.int xn)]) (fun _ kx_ => XS.iload X140.here hx rfl (hb hby at_43) rfl kx_) ?_
      refine W.s1 (mkF m 46 #[.val (.int xa), .val (.int xb), .val (.int xc), .val (.int xd), .val (.int xe), .val (.int xk), .val (.ref b101), .val (.int xn), .unset, .unset, .unset, .unset] [(.int (2 : Int32)), (.int xn)]) (fun _ kx_ => XS.iconst X140.here hx rfl (hb hby at_45) kx_) ?_
      refine W.icmp X140 hx (hb hby at_46) (pc' := 57) (pc'' := 49) (by decide) (by decide) rfl (fun (c46 : ¬ (2 : Int32) < xn) => ?_) (fun (c46 : (2 : Int32) < xn) => ?_)
      · exact J57 _ _ _ _ X140 e140 N140 Z140 f141 H140 (by have := hx140; omega)
      · refine W.s1 (mkF m 51 #[.val (.int xa), .val (.int xb), .val (.int xc), .val (.int xd), .val (.int xe), .val (.int xk), .val (.ref b101), .val (.int xn), .unset, .unset, .unset, .unset] [(.ref b101)]) (fun _ kx_ => XS.aload X140.here hx rfl (hb hby at_49) rfl rfl kx_) ?_
        refine W.s1 (mkF m 52 #[.val (.int xa), .val (.int xb), .val (.int xc), .val (.int xd), .val (.int xe), .val (.int xk), .val (.ref b101), .val (.int xn), .unset, .unset, .unset, .unset] [(.int xc), (.ref b101)]) (fun _ kx_ => XS.iloadN X140.here hx rfl (hb hby at_51) rfl kx_) ?_
        refine W.s1 (mkF m 53 #[.val (.int xa), .val (.int xb), .val (.int xc), .val (.int xd), .val (.int xe), .val (.int xk), .val (.ref b101), .val (.int xn), .unset, .unset, .unset, .unset] [(.int (3 : Int32)), (.int xc), (.ref b101)]) (fun _ kx_ => XS.iconst X140.here hx rfl (hb hby at_52) kx_) ?_
        refine W.s1 (mkF m 54 #[.val (.int xa), .val (.int xb), .val (.int xc), .val (.int xd), .val (.int xe), .val (.int xk), .val (.ref b101), .val (.int xn), .unset, .unset, .unset, .unset] [(.int (xc &&& (3 : Int32))), (.ref b101)]) (fun _ kx_ => XS.iand X140.here hx rfl (hb hby at_53) rfl kx_) ?_
        obtain ⟨k_54, hk_54, hl_54⟩ := own_m4 xc
        obtain ⟨cq142, kq142, q142a, q142b, q142c⟩ := isOf hZ e140 f141
        obtain ⟨_, _, ⟨T142, L142, k142, n142⟩, -, X142, ⟨Lc142, hQ142, l142, y142, z142⟩, st142⟩ := X140.virtualBack hx (y := (⟨"com/example/tempora/tempora/NotedPoints", "note", "(I)V"⟩ : MethodName)) (z := (⟨"com/example/tempora/tempora/NotedPoints", "note", "(I)V"⟩ : MethodName)) hown (mvT hZ (hw _ (List.mem_of_getElem? (i := 15) rfl))) (mvT hZ (hw _ (List.mem_of_getElem? (i := 16) rfl))) (notFace_of_selects (args := #[]) (mvT hZ (hw _ (List.mem_of_getElem? (i := 18) rfl)))) (mvT hZ (hw _ (List.mem_of_getElem? (i := 18) rfl))) (mvT hZ (hw _ (List.mem_of_getElem? (i := 17) rfl))) (by decide) (backOf (W := 0) (rm3 l Z a0 hw [] b101 (xc &&& (3 : Int32)) ap an 4 (4 : Int32) xs140 k_54 h140 n0 Z140 rfl (by decide) H140 hk_54 hl_54 (Or.inr (by have := hx140; omega)) hp4 hp5 hp3 ge101 ge_ap ge_an) hZ (hw _ (List.mem_of_getElem? (i := 19) rfl)) (hw _ (List.mem_of_getElem? (i := 2) rfl)) (by decide) (by decide)) q142a q142c (g := (mkF m 54 #[.val (.int xa), .val (.int xb), .val (.int xc), .val (.int xd), .val (.int xe), .val (.int xk), .val (.ref b101), .val (.int xn), .unset, .unset, .unset, .unset] [(.int (xc &&& (3 : Int32))), (.ref b101)])) rfl (by rw [hml]; rfl) (Steps.refl _) (argsL := [(.int (xc &&& (3 : Int32)))]) (rest := []) (lenOf pd_3 rfl) rfl (by show 2 * 0 + _ ≤ _; exact Nat.le_of_eq rfl) (hb hby at_54) (fun _ _ => ⟨rfl, e140, (by decide : 3 + 0 ≤ _), (by decide : 11 + 0 ≤ _)⟩)
        dsimp only [Pt.U, Pt.locs, Pt.cells, Pt.slots] at X142 l142 y142 z142 st142 hQ142
        subst l142 y142 z142
        obtain ⟨h142, e142⟩ : ∃ z, T142.heap = z := ⟨_, rfl⟩
        rw [e142] at hQ142
        obtain ⟨rfl, Nq142, Kq142, hz142⟩ := hQ142
        have N142 := Fr.app N140 Nq142
        have Z142 : n0 ≤ h142.size := Nat.le_trans Z140 Kq142.1
        have f143 := f141.keep Kq142
        obtain ⟨xs142, H142, hx142⟩ : ∃ ys, own_NP Z h142 b101 ap an 4 ys ∧ ys.length ≤ 2 := hz142.elim (fun q => ⟨_, q.2, by have := hx140; omega⟩) (fun q => ⟨_, q.2, by rw [own_len]; have := hx140; omega⟩)
        refine W.s3 (mkF m 57 #[.val (.int xa), .val (.int xb), .val (.int xc), .val (.int xd), .val (.int xe), .val (.int xk), .val (.ref b101), .val (.int xn), .unset, .unset, .unset, .unset] []) st142 ?_
        exact J57 _ _ _ _ X142 e142 N142 Z142 f143 H142 (by have := hx142; omega)
    · refine W.s1 (mkF m 37 #[.val (.int xa), .val (.int xb), .val (.int xc), .val (.int xd), .val (.int xe), .val (.int xk), .val (.ref b101), .val (.int xn), .unset, .unset, .unset, .unset] [(.ref b101)]) (fun _ kx_ => XS.aload X140.here hx rfl (hb hby at_35) rfl rfl kx_) ?_
      refine W.s1 (mkF m 38 #[.val (.int xa), .val (.int xb), .val (.int xc), .val (.int xd), .val (.int xe), .val (.int xk), .val (.ref b101), .val (.int xn), .unset, .unset, .unset, .unset] [(.int xb), (.ref b101)]) (fun _ kx_ => XS.iloadN X140.here hx rfl (hb hby at_37) rfl kx_) ?_
      refine W.s1 (mkF m 39 #[.val (.int xa), .val (.int xb), .val (.int xc), .val (.int xd), .val (.int xe), .val (.int xk), .val (.ref b101), .val (.int xn), .unset, .unset, .unset, .unset] [(.int (3 : Int32)), (.int xb), (.ref b101)]) (fun _ kx_ => XS.iconst X140.here hx rfl (hb hby at_38) kx_) ?_
      refine W.s1 (mkF m 40 #[.val (.int xa), .val (.int xb), .val (.int xc), .val (.int xd), .val (.int xe), .val (.int xk), .val (.ref b101), .val (.int xn), .unset, .unset, .unset, .unset] [(.int (xb &&& (3 : Int32))), (.ref b101)]) (fun _ kx_ => XS.iand X140.here hx rfl (hb hby at_39) rfl kx_) ?_
      obtain ⟨k_40, hk_40, hl_40⟩ := own_m4 xb
      obtain ⟨cq144, kq144, q144a, q144b, q144c⟩ := isOf hZ e140 f141
      obtain ⟨_, _, ⟨T144, L144, k144, n144⟩, -, X144, ⟨Lc144, hQ144, l144, y144, z144⟩, st144⟩ := X140.virtualBack hx (y := (⟨"com/example/tempora/tempora/NotedPoints", "note", "(I)V"⟩ : MethodName)) (z := (⟨"com/example/tempora/tempora/NotedPoints", "note", "(I)V"⟩ : MethodName)) hown (mvT hZ (hw _ (List.mem_of_getElem? (i := 15) rfl))) (mvT hZ (hw _ (List.mem_of_getElem? (i := 16) rfl))) (notFace_of_selects (args := #[]) (mvT hZ (hw _ (List.mem_of_getElem? (i := 18) rfl)))) (mvT hZ (hw _ (List.mem_of_getElem? (i := 18) rfl))) (mvT hZ (hw _ (List.mem_of_getElem? (i := 17) rfl))) (by decide) (backOf (W := 0) (rm3 l Z a0 hw [] b101 (xb &&& (3 : Int32)) ap an 4 (4 : Int32) xs140 k_40 h140 n0 Z140 rfl (by decide) H140 hk_40 hl_40 (Or.inr (by have := hx140; omega)) hp4 hp5 hp3 ge101 ge_ap ge_an) hZ (hw _ (List.mem_of_getElem? (i := 19) rfl)) (hw _ (List.mem_of_getElem? (i := 2) rfl)) (by decide) (by decide)) q144a q144c (g := (mkF m 40 #[.val (.int xa), .val (.int xb), .val (.int xc), .val (.int xd), .val (.int xe), .val (.int xk), .val (.ref b101), .val (.int xn), .unset, .unset, .unset, .unset] [(.int (xb &&& (3 : Int32))), (.ref b101)])) rfl (by rw [hml]; rfl) (Steps.refl _) (argsL := [(.int (xb &&& (3 : Int32)))]) (rest := []) (lenOf pd_3 rfl) rfl (by show 2 * 0 + _ ≤ _; exact Nat.le_of_eq rfl) (hb hby at_40) (fun _ _ => ⟨rfl, e140, (by decide : 3 + 0 ≤ _), (by decide : 11 + 0 ≤ _)⟩)
      dsimp only [Pt.U, Pt.locs, Pt.cells, Pt.slots] at X144 l144 y144 z144 st144 hQ144
      subst l144 y144 z144
      obtain ⟨h144, e144⟩ : ∃ z, T144.heap = z := ⟨_, rfl⟩
      rw [e144] at hQ144
      obtain ⟨rfl, Nq144, Kq144, hz144⟩ := hQ144
      have N144 := Fr.app N140 Nq144
      have Z144 : n0 ≤ h144.size := Nat.le_trans Z140 Kq144.1
      have f145 := f141.keep Kq144
      obtain ⟨xs144, H144, hx144⟩ : ∃ ys, own_NP Z h144 b101 ap an 4 ys ∧ ys.length ≤ 2 := hz144.elim (fun q => ⟨_, q.2, by have := hx140; omega⟩) (fun q => ⟨_, q.2, by rw [own_len]; have := hx140; omega⟩)
      refine W.s3 (mkF m 43 #[.val (.int xa), .val (.int xb), .val (.int xc), .val (.int xd), .val (.int xe), .val (.int xk), .val (.ref b101), .val (.int xn), .unset, .unset, .unset, .unset] []) st144 ?_
      refine W.s1 (mkF m 45 #[.val (.int xa), .val (.int xb), .val (.int xc), .val (.int xd), .val (.int xe), .val (.int xk), .val (.ref b101), .val (.int xn), .unset, .unset, .unset, .unset] [(.int xn)]) (fun _ kx_ => XS.iload X144.here hx rfl (hb hby at_43) rfl kx_) ?_
      refine W.s1 (mkF m 46 #[.val (.int xa), .val (.int xb), .val (.int xc), .val (.int xd), .val (.int xe), .val (.int xk), .val (.ref b101), .val (.int xn), .unset, .unset, .unset, .unset] [(.int (2 : Int32)), (.int xn)]) (fun _ kx_ => XS.iconst X144.here hx rfl (hb hby at_45) kx_) ?_
      refine W.icmp X144 hx (hb hby at_46) (pc' := 57) (pc'' := 49) (by decide) (by decide) rfl (fun (c46 : ¬ (2 : Int32) < xn) => ?_) (fun (c46 : (2 : Int32) < xn) => ?_)
      · exact J57 _ _ _ _ X144 e144 N144 Z144 f145 H144 (by have := hx144; omega)
      · refine W.s1 (mkF m 51 #[.val (.int xa), .val (.int xb), .val (.int xc), .val (.int xd), .val (.int xe), .val (.int xk), .val (.ref b101), .val (.int xn), .unset, .unset, .unset, .unset] [(.ref b101)]) (fun _ kx_ => XS.aload X144.here hx rfl (hb hby at_49) rfl rfl kx_) ?_
        refine W.s1 (mkF m 52 #[.val (.int xa), .val (.int xb), .val (.int xc), .val (.int xd), .val (.int xe), .val (.int xk), .val (.ref b101), .val (.int xn), .unset, .unset, .unset, .unset] [(.int xc), (.ref b101)]) (fun _ kx_ => XS.iloadN X144.here hx rfl (hb hby at_51) rfl kx_) ?_
        refine W.s1 (mkF m 53 #[.val (.int xa), .val (.int xb), .val (.int xc), .val (.int xd), .val (.int xe), .val (.int xk), .val (.ref b101), .val (.int xn), .unset, .unset, .unset, .unset] [(.int (3 : Int32)), (.int xc), (.ref b101)]) (fun _ kx_ => XS.iconst X144.here hx rfl (hb hby at_52) kx_) ?_
        refine W.s1 (mkF m 54 #[.val (.int xa), .val (.int xb), .val (.int xc), .val (.int xd), .val (.int xe), .val (.int xk), .val (.ref b101), .val (.int xn), .unset, .unset, .unset, .unset] [(.int (xc &&& (3 : Int32))), (.ref b101)]) (fun _ kx_ => XS.iand X144.here hx rfl (hb hby at_53) rfl kx_) ?_
        obtain ⟨k_54, hk_54, hl_54⟩ := own_m4 xc
        obtain ⟨cq146, kq146, q146a, q146b, q146c⟩ := isOf hZ e144 f145
        obtain ⟨_, _, ⟨T146, L146, k146, n146⟩, -, X146, ⟨Lc146, hQ146, l146, y146, z146⟩, st146⟩ := X144.virtualBack hx (y := (⟨"com/example/tempora/tempora/NotedPoints", "note", "(I)V"⟩ : MethodName)) (z := (⟨"com/example/tempora/tempora/NotedPoints", "note", "(I)V"⟩ : MethodName)) hown (mvT hZ (hw _ (List.mem_of_getElem? (i := 15) rfl))) (mvT hZ (hw _ (List.mem_of_getElem? (i := 16) rfl))) (notFace_of_selects (args := #[]) (mvT hZ (hw _ (List.mem_of_getElem? (i := 18) rfl)))) (mvT hZ (hw _ (List.mem_of_getElem? (i := 18) rfl))) (mvT hZ (hw _ (List.mem_of_getElem? (i := 17) rfl))) (by decide) (backOf (W := 0) (rm3 l Z a0 hw [] b101 (xc &&& (3 : Int32)) ap an 4 (4 : Int32) xs144 k_54 h144 n0 Z144 rfl (by decide) H144 hk_54 hl_54 (Or.inr (by have := hx144; omega)) hp4 hp5 hp3 ge101 ge_ap ge_an) hZ (hw _ (List.mem_of_getElem? (i := 19) rfl)) (hw _ (List.mem_of_getElem? (i := 2) rfl)) (by decide) (by decide)) q146a q146c (g := (mkF m 54 #[.val (.int xa), .val (.int xb), .val (.int xc), .val (.int xd), .val (.int xe), .val (.int xk), .val (.ref b101), .val (.int xn), .unset, .unset, .unset, .unset] [(.int (xc &&& (3 : Int32))), (.ref b101)])) rfl (by rw [hml]; rfl) (Steps.refl _) (argsL := [(.int (xc &&& (3 : Int32)))]) (rest := []) (lenOf pd_3 rfl) rfl (by show 2 * 0 + _ ≤ _; exact Nat.le_of_eq rfl) (hb hby at_54) (fun _ _ => ⟨rfl, e144, (by decide : 3 + 0 ≤ _), (by decide : 11 + 0 ≤ _)⟩)
        dsimp only [Pt.U, Pt.locs, Pt.cells, Pt.slots] at X146 l146 y146 z146 st146 hQ146
        subst l146 y146 z146
        obtain ⟨h146, e146⟩ : ∃ z, T146.heap = z := ⟨_, rfl⟩
        rw [e146] at hQ146
        obtain ⟨rfl, Nq146, Kq146, hz146⟩ := hQ146
        have N146 := Fr.app N144 Nq146
        have Z146 : n0 ≤ h146.size := Nat.le_trans Z144 Kq146.1
        have f147 := f145.keep Kq146
        obtain ⟨xs146, H146, hx146⟩ : ∃ ys, own_NP Z h146 b101 ap an 4 ys ∧ ys.length ≤ 3 := hz146.elim (fun q => ⟨_, q.2, by have := hx144; omega⟩) (fun q => ⟨_, q.2, by rw [own_len]; have := hx144; omega⟩)
        refine W.s3 (mkF m 57 #[.val (.int xa), .val (.int xb), .val (.int xc), .val (.int xd), .val (.int xe), .val (.int xk), .val (.ref b101), .val (.int xn), .unset, .unset, .unset, .unset] []) st146 ?_
        exact J57 _ _ _ _ X146 e146 N146 Z146 f147 H146 (by have := hx146; omega)
set_option maxRecDepth 65536 in
set_option maxHeartbeats 40000000 in
theorem comes_1 {Post : Tables → Env → Array Value → State → Outcome → State → Prop} (hpost : ∀ tb e args s v u, (limb_1_1.after args s (.returned v) u = true ∧ limb_1_2.after args s (.returned v) u = true ∧ True) → FrameEnd s (.returned v) u (Jvm.fieldLocs frame_1_writes args s ++ Jvm.arrayLocs frame_1_arrays args s ++ Jvm.staticLocs frame_1_statics s) 16 128 → Post tb e args s (.returned v) u) :
    ArmFor flags0 classFile x code maxLocals ret World_1 tables_1 room_1 Calls_1 rest_1 Pre_1 Post := by
  intro l hfl _ _ p e ha hc hk s m args below hf hA hF happ hP
  obtain ⟨hcalls, hrest, hpre⟩ := hP
  obtain ⟨-, -, -, hnamed, -, -, -, hat⟩ := (Spec.applies_iff hf).mp happ
  obtain ⟨hg, hn⟩ := and_e (Cond.before_iff.mp (show (Jvm.Cond.and given_1 narrow_1).before args s = true from hpre))
  obtain ⟨gc, g0⟩ := and_e hg
  obtain ⟨w_0, g1⟩ := and_e g0
  obtain ⟨w_1, g2⟩ := and_e g1
  obtain ⟨w_2, g3⟩ := and_e g2
  obtain ⟨w_3, g4⟩ := and_e g3
  obtain ⟨w_4, g5⟩ := and_e g4
  have w_5 := g5
  obtain ⟨w0, w1, w2, w3, w4, w5, rfl⟩ : ∃ w0 w1 w2 w3 w4 w5 : Value, args = #[w0, w1, w2, w3, w4, w5] := by
    have hs : args.size = 6 := by simpa [Cond.value, given_1] using gc
    obtain ⟨L⟩ := args
    match L, hs with
    | [w0, w1, w2, w3, w4, w5], _ => exact ⟨w0, w1, w2, w3, w4, w5, rfl⟩
  have hw := fun d (hd : d ∈ tables_1) => atoms_spec (ws := Jvm.Cond.code x code maxLocals ret :: tables_1) hat d (List.mem_cons_of_mem _ hd)
  have hfit : Fit s := fun {y c} hc i hi => by
    obtain ⟨ha, rfl⟩ := Array.getElem?_eq_some_iff.mp hc
    have q := List.all_eq_true.mp ((Array.all_eq_true_iff_forall_mem.mp hF) _ (Array.getElem_mem ha)) i (List.mem_range.mpr hi)
    simpa [Array.getElem?_eq_getElem hi] using q
  obtain ⟨i0, ei0⟩ := is_v w_0
  obtain rfl : w0 = (.int i0) := Option.some.inj ei0
  obtain ⟨i1, ei1⟩ := is_v w_1
  obtain rfl : w1 = (.int i1) := Option.some.inj ei1
  obtain ⟨i2, ei2⟩ := is_v w_2
  obtain rfl : w2 = (.int i2) := Option.some.inj ei2
  obtain ⟨i3, ei3⟩ := is_v w_3
  obtain rfl : w3 = (.int i3) := Option.some.inj ei3
  obtain ⟨i4, ei4⟩ := is_v w_4
  obtain rfl : w4 = (.int i4) := Option.some.inj ei4
  obtain ⟨i5, ei5⟩ := is_v w_5
  obtain rfl : w5 = (.int i5) := Option.some.inj ei5
  obtain ⟨n, o, h1, h2, h3, _, L, rfl, ⟨rfl, N⟩, hq⟩ := rm0 l s _ hw tables_1 i0 i1 i2 i3 i4 i5 s.heap s.heap.size (Nat.le_refl _)  p e ha hc hk s m _ below hf ((Spec.applies_iff_loose hf).mp happ).1 ⟨rfl, State.Warmed39.refl s, rfl⟩ trivial
  refine ⟨n, _, h1, h2, h3, hpost _ _ _ _ _ _ ⟨Cond.after_iff.mpr rfl, Cond.after_iff.mpr (eq_i res_at (Term.int_eval (1)) rfl), trivial⟩ ⟨hq.1, hq.2.1, (hq.2.2.sift fun y hy => Or.inr (N y hy)).mono (by decide) (by decide)⟩⟩
theorem main_1_1 : Claimed_1_1 := comes_1 fun _ _ _ _ _ _ h hF => ⟨h.1, hF⟩
theorem main_1_2 : Claimed_1_2 := comes_1 fun _ _ _ _ _ _ h hF => ⟨h.2.1, hF⟩
end Jvm.Pilot.@@N@@
namespace Jvm.Pilot.@@N@@
open Jvm Jvm.ClassFile Sem Op Lib Jvm.Free Jvm.Stand Jvm.Pilot.@@N@@.Jvm.D
/-! MADE BY PROGRAM (witnessworld.py) out of the Statement's table words and the real class files: 14 classes; the members and pool entries that the words name. The judged class is class 1, her method 1. -/
namespace start1
open Jvm.ClassFile
def u (s : String) : CpInfo := .utf8 (stringToUtf16 s)
/-- a pool by its gaps: so many unusable entries, then the entry; so many at the end -/
def gap : Nat → List CpInfo → List CpInfo
  | 0, r => r
  | n + 1, r => .unusable :: gap n r
def poolList (es : List (Nat × CpInfo)) (last : Nat) : List CpInfo := es.foldr (fun e r => gap e.1 (e.2 :: r)) (gap last [])
def pool (es : List (Nat × CpInfo)) (last : Nat) : Array CpInfo := ⟨poolList es last⟩
def fileOf (pool : Array CpInfo) (this : Nat) (attrs : Array Attribute := #[]) (ms : Array MethodInfo := #[]) (fl : Nat := 33) (sup : Nat := 0) (ifs : Array Nat := #[]) (fds : Array FieldInfo := #[]) : ClassFile where
  minorVersion := 0
  majorVersion := 65
  constantPool := pool
  accessFlags := fl
  thisClass := this
  superClass := sup
  interfaces := ifs
  fields := fds
  methods := ms
  attributes := attrs
def plain (name : String) (sup : Option ClassId) : Class where
  name := name
  kind := .ordinary
  loader := none
  accessFlags := 33
  super := sup
  interfaces := #[]
  cf := none
  fields := #[]
  methods := #[]
  instanceTypes := #[]
  staticTypes := #[]
  resolved := #[]
  callSites := []
  init := .initialized
  statics := none
  mirror := none

def pool0 : Array CpInfo := pool [(5, u "<init>"), (0, u "()V"), (1, .class_ 10), (1, u "java/lang/Object")] 113

def k0c0 : Code := { maxStack := 0, maxLocals := 1, code := object_method_1_code, exceptionTable := #[], attributes := #[] }
def k0m0 : Method := { name := "<init>", desc := "()V", sig := { parameters := [], returnType := none }, accessFlags := 1, code := some k0c0 }
/-- java/lang/Object -/
def k0 : Class := { plain "java/lang/Object" none with
  accessFlags := 33
  interfaces := #[]
  cf := some (fileOf pool0 8 #[] #[{ accessFlags := 1, nameIndex := 5, descriptorIndex := 6, attributes := #[] }] 33 0 #[] #[])
  fields := #[]
  methods := #[k0m0]
  instanceTypes := #[]
  staticTypes := #[]
  resolved := Array.replicate 124 none
  statics := none }

def pool1 : Array CpInfo := pool [(2, .class_ 4), (1, u "java/lang/Object"), (0, u "<init>"), (0, u "()V"), (0, .class_ 8), (0, u "com/example/tempora/tempora/NotedPoints"), (0, .methodref 7 10), (0, .nameAndType 5 11), (0, u "(I)V"), (0, .methodref 7 13), (0, .nameAndType 14 11), (0, u "note"), (0, .methodref 7 16), (0, .nameAndType 17 6), (0, u "clear"), (0, .methodref 7 19), (0, .nameAndType 20 21), (0, u "take"), (0, u "()[I"), (0, .class_ 23), (0, u "com/example/tempora/tempora/NotedPointsClearPinLaw"), (2, u "law"), (0, u "(IIIIII)Z")] 5

def k1m0 : Method := { name := "<init>", desc := "()V", sig := { parameters := [], returnType := none }, accessFlags := 1, code := none }
def k1c1 : Code := { maxStack := 3, maxLocals := 12, code := code, exceptionTable := #[], attributes := #[] }
def k1m1 : Method := { name := "law", desc := "(IIIIII)Z", sig := { parameters := [.int, .int, .int, .int, .int, .int], returnType := some .boolean }, accessFlags := 9, code := some k1c1 }
/-- com/example/tempora/tempora/NotedPointsClearPinLaw -/
def k1 : Class := { plain "com/example/tempora/tempora/NotedPointsClearPinLaw" (some 0) with
  accessFlags := 49
  interfaces := #[]
  cf := some (fileOf pool1 22 #[] #[{ accessFlags := 1, nameIndex := 5, descriptorIndex := 6, attributes := #[] }, { accessFlags := 9, nameIndex := 26, descriptorIndex := 27, attributes := #[] }] 49 2 #[] #[])
  fields := #[]
  methods := #[k1m0, k1m1]
  instanceTypes := #[]
  staticTypes := #[]
  resolved := Array.replicate 33 none
  statics := none }

def pool2 : Array CpInfo := pool [(1, .methodref 2 3), (0, .class_ 4), (0, .nameAndType 5 6), (0, u "java/lang/Object"), (0, u "<init>"), (0, u "()V"), (0, .fieldref 8 9), (0, .class_ 10), (0, .nameAndType 11 12), (0, u "com/example/tempora/tempora/NotedPoints"), (0, u "points"), (0, u "[I"), (0, .fieldref 8 14), (0, .nameAndType 15 16), (0, u "noted"), (0, u "[Z"), (0, .fieldref 8 18), (0, .nameAndType 19 20), (0, u "count"), (0, u "I"), (0, .methodref 22 23), (0, .class_ 24), (0, .nameAndType 25 26), (0, u "java/util/Arrays"), (0, u "copyOf"), (0, u "([II)[I"), (0, .methodref 8 28), (0, .nameAndType 29 6), (0, u "clear"), (0, u "(I)V"), (2, u "note"), (1, u "take"), (0, u "()[I")] 2

def k2c0 : Code := { maxStack := 2, maxLocals := 2, code := prog_16_method_1_code, exceptionTable := #[], attributes := #[] }
def k2m0 : Method := { name := "<init>", desc := "(I)V", sig := { parameters := [.int], returnType := none }, accessFlags := 0, code := some k2c0 }
def k2c1 : Code := { maxStack := 5, maxLocals := 2, code := prog_16_method_2_code, exceptionTable := #[], attributes := #[] }
def k2m1 : Method := { name := "note", desc := "(I)V", sig := { parameters := [.int], returnType := none }, accessFlags := 0, code := some k2c1 }
def k2c2 : Code := { maxStack := 2, maxLocals := 2, code := prog_16_method_3_code, exceptionTable := #[], attributes := #[] }
def k2m2 : Method := { name := "take", desc := "()[I", sig := { parameters := [], returnType := some (.array .int) }, accessFlags := 0, code := some k2c2 }
def k2c3 : Code := { maxStack := 3, maxLocals := 2, code := prog_16_method_4_code, exceptionTable := #[], attributes := #[] }
def k2m3 : Method := { name := "clear", desc := "()V", sig := { parameters := [], returnType := none }, accessFlags := 0, code := some k2c3 }
/-- com/example/tempora/tempora/NotedPoints -/
def k2 : Class := { plain "com/example/tempora/tempora/NotedPoints" (some 0) with
  accessFlags := 48
  interfaces := #[]
  cf := some (fileOf pool2 8 #[] #[{ accessFlags := 0, nameIndex := 5, descriptorIndex := 30, attributes := #[] }, { accessFlags := 0, nameIndex := 33, descriptorIndex := 30, attributes := #[] }, { accessFlags := 0, nameIndex := 35, descriptorIndex := 36, attributes := #[] }, { accessFlags := 0, nameIndex := 29, descriptorIndex := 6, attributes := #[] }] 48 2 #[] #[{ accessFlags := 18, nameIndex := 11, descriptorIndex := 12, attributes := #[] }, { accessFlags := 18, nameIndex := 15, descriptorIndex := 16, attributes := #[] }, { accessFlags := 2, nameIndex := 19, descriptorIndex := 20, attributes := #[] }])
  fields := #[{ name := "points", type := (.array .int), accessFlags := 18, slot := 0, constantValue := 0 }, { name := "noted", type := (.array .boolean), accessFlags := 18, slot := 1, constantValue := 0 }, { name := "count", type := .int, accessFlags := 2, slot := 2, constantValue := 0 }]
  methods := #[k2m0, k2m1, k2m2, k2m3]
  instanceTypes := #[(.array .int), (.array .boolean), .int]
  staticTypes := #[]
  resolved := Array.replicate 39 none
  statics := none }

def pool3 : Array CpInfo := pool [(2, .class_ 4), (1, u "java/lang/Object"), (0, u "<init>"), (0, u "()V"), (7, .class_ 16), (1, u "java/util/Arrays"), (57, .class_ 76), (1, u "java/util/Arrays$NaturalOrder"), (36, .class_ 115), (1, u "java/util/Arrays$LegacyMergeSort"), (1, u "Z"), (32, .methodref 151 152), (0, .class_ 153), (0, .nameAndType 154 155), (0, u "java/lang/System"), (0, u "arraycopy"), (0, u "(Ljava/lang/Object;ILjava/lang/Object;II)V"), (146, u "copyOf"), (1, .methodref 305 306), (0, .class_ 307), (0, .nameAndType 308 309), (0, u "java/lang/Math"), (0, u "min"), (0, u "(II)I"), (65, .class_ 376), (0, u "java/util/Arrays$ArrayList"), (68, u "$assertionsDisabled"), (269, u "MIN_ARRAY_SORT_GRAN"), (0, u "I"), (2, u "INSERTIONSORT_THRESHOLD"), (151, u "([II)[I"), (103, .class_ 976), (0, u "java/util/Arrays$ArrayItr")] 52

def k3m0 : Method := { name := "<init>", desc := "()V", sig := { parameters := [], returnType := none }, accessFlags := 2, code := none }
def k3c1 : Code := { maxStack := 6, maxLocals := 3, code := jdk_65_method_123_code, exceptionTable := #[], attributes := #[] }
def k3m1 : Method := { name := "copyOf", desc := "([II)[I", sig := { parameters := [(.array .int), .int], returnType := some (.array .int) }, accessFlags := 9, code := some k3c1 }
/-- java/util/Arrays -/
def k3 : Class := { plain "java/util/Arrays" (some 0) with
  accessFlags := 49
  interfaces := #[]
  cf := some (fileOf pool3 14 #[.nestMembers #[975, 375, 113, 74]] #[{ accessFlags := 2, nameIndex := 5, descriptorIndex := 6, attributes := #[] }, { accessFlags := 9, nameIndex := 302, descriptorIndex := 871, attributes := #[] }] 49 2 #[] #[{ accessFlags := 26, nameIndex := 715, descriptorIndex := 716, attributes := #[] }, { accessFlags := 26, nameIndex := 719, descriptorIndex := 716, attributes := #[] }, { accessFlags := 4120, nameIndex := 445, descriptorIndex := 117, attributes := #[] }])
  fields := #[{ name := "MIN_ARRAY_SORT_GRAN", type := .int, accessFlags := 26, slot := 0, constantValue := 0 }, { name := "INSERTIONSORT_THRESHOLD", type := .int, accessFlags := 26, slot := 1, constantValue := 0 }, { name := "$assertionsDisabled", type := .boolean, accessFlags := 4120, slot := 2, constantValue := 0 }]
  methods := #[k3m0, k3m1]
  instanceTypes := #[]
  staticTypes := #[.int, .int, .boolean]
  resolved := Array.replicate 1029 none
  statics := none }

def pool4 : Array CpInfo := pool [(1, .class_ 2), (0, u "java/lang/Math"), (1, .class_ 6), (1, u "java/lang/Object"), (0, u "<init>"), (0, u "()V"), (89, .class_ 100), (1, u "java/lang/Math$RandomNumberGeneratorHolder"), (71, u "negativeZeroFloatBits"), (0, u "J"), (2, u "negativeZeroDoubleBits"), (24, u "min"), (43, u "$assertionsDisabled"), (0, u "Z"), (88, u "(II)I"), (2, u "twoToTheDoubleScaleDown"), (0, u "D"), (4, u "twoToTheDoubleScaleUp"), (9, u "E"), (3, u "PI"), (2, u "TAU"), (2, u "DEGREES_TO_RADIANS"), (0, u "RADIANS_TO_DEGREES")] 94

def k4m0 : Method := { name := "<init>", desc := "()V", sig := { parameters := [], returnType := none }, accessFlags := 2, code := none }
def k4c1 : Code := { maxStack := 2, maxLocals := 2, code := jdk_29_method_69_code, exceptionTable := #[], attributes := #[] }
def k4m1 : Method := { name := "min", desc := "(II)I", sig := { parameters := [.int, .int], returnType := some .int }, accessFlags := 9, code := some k4c1 }
/-- java/lang/Math -/
def k4 : Class := { plain "java/lang/Math" (some 0) with
  accessFlags := 49
  interfaces := #[]
  cf := some (fileOf pool4 1 #[.nestMembers #[98]] #[{ accessFlags := 2, nameIndex := 7, descriptorIndex := 8, attributes := #[] }, { accessFlags := 9, nameIndex := 201, descriptorIndex := 335, attributes := #[] }] 49 4 #[] #[{ accessFlags := 25, nameIndex := 354, descriptorIndex := 339, attributes := #[] }, { accessFlags := 25, nameIndex := 358, descriptorIndex := 339, attributes := #[] }, { accessFlags := 25, nameIndex := 361, descriptorIndex := 339, attributes := #[] }, { accessFlags := 26, nameIndex := 364, descriptorIndex := 339, attributes := #[] }, { accessFlags := 26, nameIndex := 365, descriptorIndex := 339, attributes := #[] }, { accessFlags := 26, nameIndex := 172, descriptorIndex := 173, attributes := #[] }, { accessFlags := 26, nameIndex := 176, descriptorIndex := 173, attributes := #[] }, { accessFlags := 8, nameIndex := 344, descriptorIndex := 339, attributes := #[] }, { accessFlags := 8, nameIndex := 338, descriptorIndex := 339, attributes := #[] }, { accessFlags := 4120, nameIndex := 245, descriptorIndex := 246, attributes := #[] }])
  fields := #[{ name := "E", type := .double, accessFlags := 25, slot := 0, constantValue := 0 }, { name := "PI", type := .double, accessFlags := 25, slot := 1, constantValue := 0 }, { name := "TAU", type := .double, accessFlags := 25, slot := 2, constantValue := 0 }, { name := "DEGREES_TO_RADIANS", type := .double, accessFlags := 26, slot := 3, constantValue := 0 }, { name := "RADIANS_TO_DEGREES", type := .double, accessFlags := 26, slot := 4, constantValue := 0 }, { name := "negativeZeroFloatBits", type := .long, accessFlags := 26, slot := 5, constantValue := 0 }, { name := "negativeZeroDoubleBits", type := .long, accessFlags := 26, slot := 6, constantValue := 0 }, { name := "twoToTheDoubleScaleUp", type := .double, accessFlags := 8, slot := 7, constantValue := 0 }, { name := "twoToTheDoubleScaleDown", type := .double, accessFlags := 8, slot := 8, constantValue := 0 }, { name := "$assertionsDisabled", type := .boolean, accessFlags := 4120, slot := 9, constantValue := 0 }]
  methods := #[k4m0, k4m1]
  instanceTypes := #[]
  staticTypes := #[.double, .double, .double, .double, .double, .long, .long, .double, .double, .boolean]
  resolved := Array.replicate 460 none
  statics := none }

def pool5 : Array CpInfo := pool [(2, .class_ 4), (1, u "java/lang/Object"), (0, u "<init>"), (0, u "()V"), (1, .class_ 10), (1, u "java/lang/System"), (0, u "allowSecurityManager"), (0, u "I"), (16, u "cons"), (0, u "Ljava/io/Console;"), (77, .class_ 110), (1, u "java/lang/System$CallersHolder"), (43, u "initialErrStream"), (0, u "Ljava/io/PrintStream;"), (19, u "security"), (0, u "Ljava/lang/SecurityManager;"), (31, .class_ 209), (0, u "java/lang/System$1"), (7, u "props"), (0, u "Ljava/util/Properties;"), (2, u "lineSeparator"), (0, u "Ljava/lang/String;"), (96, .class_ 321), (1, u "java/lang/System$LoggerFinder"), (5, .class_ 328), (0, u "java/lang/System$Logger"), (67, u "err"), (2, u "out"), (91, u "notSupportedJnuEncoding"), (15, u "in"), (17, u "initialIn"), (0, u "Ljava/io/InputStream;"), (35, u "bootLayer"), (0, u "Ljava/lang/ModuleLayer;"), (99, .class_ 664), (0, u "java/lang/System$2"), (9, u "NEVER"), (2, u "MAYBE"), (49, u "arraycopy"), (0, u "(Ljava/lang/Object;ILjava/lang/Object;II)V"), (72, .class_ 802), (0, u "java/lang/System$Logger$Level")] 31

def k5m0 : Method := { name := "<init>", desc := "()V", sig := { parameters := [], returnType := none }, accessFlags := 2, code := none }
def k5m1 : Method := { name := "arraycopy", desc := "(Ljava/lang/Object;ILjava/lang/Object;II)V", sig := { parameters := [(.object "java/lang/Object"), .int, (.object "java/lang/Object"), .int, .int], returnType := none }, accessFlags := 265, code := none }
/-- java/lang/System -/
def k5 : Class := { plain "java/lang/System" (some 0) with
  accessFlags := 49
  interfaces := #[]
  cf := some (fileOf pool5 8 #[.nestMembers #[319, 327, 801, 108, 663, 208]] #[{ accessFlags := 2, nameIndex := 5, descriptorIndex := 6, attributes := #[] }, { accessFlags := 265, nameIndex := 727, descriptorIndex := 728, attributes := #[] }] 49 2 #[] #[{ accessFlags := 25, nameIndex := 507, descriptorIndex := 526, attributes := #[] }, { accessFlags := 25, nameIndex := 399, descriptorIndex := 155, attributes := #[] }, { accessFlags := 25, nameIndex := 396, descriptorIndex := 155, attributes := #[] }, { accessFlags := 10, nameIndex := 525, descriptorIndex := 526, attributes := #[] }, { accessFlags := 26, nameIndex := 674, descriptorIndex := 12, attributes := #[] }, { accessFlags := 26, nameIndex := 677, descriptorIndex := 12, attributes := #[] }, { accessFlags := 10, nameIndex := 11, descriptorIndex := 12, attributes := #[] }, { accessFlags := 74, nameIndex := 175, descriptorIndex := 176, attributes := #[] }, { accessFlags := 10, nameIndex := 491, descriptorIndex := 222, attributes := #[] }, { accessFlags := 74, nameIndex := 29, descriptorIndex := 30, attributes := #[] }, { accessFlags := 74, nameIndex := 154, descriptorIndex := 155, attributes := #[] }, { accessFlags := 10, nameIndex := 217, descriptorIndex := 218, attributes := #[] }, { accessFlags := 10, nameIndex := 221, descriptorIndex := 222, attributes := #[] }, { accessFlags := 8, nameIndex := 562, descriptorIndex := 563, attributes := #[] }])
  fields := #[{ name := "in", type := (.object "java/io/InputStream"), accessFlags := 25, slot := 0, constantValue := 0 }, { name := "out", type := (.object "java/io/PrintStream"), accessFlags := 25, slot := 1, constantValue := 0 }, { name := "err", type := (.object "java/io/PrintStream"), accessFlags := 25, slot := 2, constantValue := 0 }, { name := "initialIn", type := (.object "java/io/InputStream"), accessFlags := 10, slot := 3, constantValue := 0 }, { name := "NEVER", type := .int, accessFlags := 26, slot := 4, constantValue := 0 }, { name := "MAYBE", type := .int, accessFlags := 26, slot := 5, constantValue := 0 }, { name := "allowSecurityManager", type := .int, accessFlags := 10, slot := 6, constantValue := 0 }, { name := "security", type := (.object "java/lang/SecurityManager"), accessFlags := 74, slot := 7, constantValue := 0 }, { name := "notSupportedJnuEncoding", type := (.object "java/lang/String"), accessFlags := 10, slot := 8, constantValue := 0 }, { name := "cons", type := (.object "java/io/Console"), accessFlags := 74, slot := 9, constantValue := 0 }, { name := "initialErrStream", type := (.object "java/io/PrintStream"), accessFlags := 74, slot := 10, constantValue := 0 }, { name := "props", type := (.object "java/util/Properties"), accessFlags := 10, slot := 11, constantValue := 0 }, { name := "lineSeparator", type := (.object "java/lang/String"), accessFlags := 10, slot := 12, constantValue := 0 }, { name := "bootLayer", type := (.object "java/lang/ModuleLayer"), accessFlags := 8, slot := 13, constantValue := 0 }]
  methods := #[k5m0, k5m1]
  instanceTypes := #[]
  staticTypes := #[(.object "java/io/InputStream"), (.object "java/io/PrintStream"), (.object "java/io/PrintStream"), (.object "java/io/InputStream"), .int, .int, .int, (.object "java/lang/SecurityManager"), (.object "java/lang/String"), (.object "java/io/Console"), (.object "java/io/PrintStream"), (.object "java/util/Properties"), (.object "java/lang/String"), (.object "java/lang/ModuleLayer")]
  resolved := Array.replicate 834 none
  statics := none }

def pool6 : Array CpInfo := pool [(1, u "java/lang/Cloneable"), (0, .class_ 1), (0, u "java/lang/Object"), (0, .class_ 3)] 3

/-- java/lang/Cloneable -/
def k6 : Class := { plain "java/lang/Cloneable" (some 0) with
  accessFlags := 1537
  interfaces := #[]
  cf := some (fileOf pool6 2 #[] #[] 1537 4 #[] #[])
  fields := #[]
  methods := #[]
  instanceTypes := #[]
  staticTypes := #[]
  resolved := Array.replicate 8 none
  statics := none }

def pool7 : Array CpInfo := pool [(1, u "java/io/Serializable"), (0, .class_ 1), (0, u "java/lang/Object"), (0, .class_ 3)] 3

/-- java/io/Serializable -/
def k7 : Class := { plain "java/io/Serializable" (some 0) with
  accessFlags := 1537
  interfaces := #[]
  cf := some (fileOf pool7 2 #[] #[] 1537 4 #[] #[])
  fields := #[]
  methods := #[]
  instanceTypes := #[]
  staticTypes := #[]
  resolved := Array.replicate 8 none
  statics := none }

/-- the primitive boolean -/
def k8 : Class := { plain "boolean" none with kind := .primitive 'Z', accessFlags := 0x411 }
/-- [Z -/
def k9 : Class := { plain "[Z" (some 0) with kind := .array 8 .boolean, interfaces := #[6, 7], accessFlags := 1041 }

/-- the primitive byte -/
def k10 : Class := { plain "byte" none with kind := .primitive 'B', accessFlags := 0x411 }
/-- [B -/
def k11 : Class := { plain "[B" (some 0) with kind := .array 10 .byte, interfaces := #[6, 7], accessFlags := 1041 }

/-- the primitive int -/
def k12 : Class := { plain "int" none with kind := .primitive 'I', accessFlags := 0x411 }
/-- [I -/
def k13 : Class := { plain "[I" (some 0) with kind := .array 12 .int, interfaces := #[6, 7], accessFlags := 1041 }

def heap : Heap := #[]
def classes : Array Class := #[k0, k1, k2, k3, k4, k5, k6, k7, k8, k9, k10, k11, k12, k13]
def interned : List (Array UInt16 × Addr) := []
def slotsUsed : Nat := 0
def theMethod : MethodId := ⟨1, 1⟩
def args0 : Array Value := #[.int 0, .int 1, .int 2, .int 3, .int 4, .int 5]
def aboutOver (below : List Frame) : State where
  vm := { classes := classes, interned := interned.toArray }
  heap := heap
  slotsUsed := slotsUsed
  threads := #[{ frames := .invoking theMethod args0 :: below }]
def below0 : List Frame := [.native { method := ⟨0, 0⟩, args := #[] }]
def about1 : State := aboutOver below0
def p0 : Program := .bare "" "" ""
def e0 : Env := launch0.env 0 0 0
theorem w_frames : about1.frames = Frame.invoking theMethod args0 :: below0 := rfl
set_option maxRecDepth 65536 in
theorem w_args : argsFit about1.vm theMethod args0 = true := by decide +kernel
set_option maxRecDepth 65536 in
theorem w_heap : heapFits about1 = true := by decide +kernel
set_option maxRecDepth 65536 in
theorem w_runnable : about1.curStatus? = some .runnable := by decide +kernel
set_option maxRecDepth 65536 in
theorem w_alone : about1.alone = true := by decide +kernel
set_option maxRecDepth 65536 in
theorem w_named : about1.methodNamed? x = some theMethod := by decide +kernel
set_option maxRecDepth 65536 in
theorem w_hears : about1.hears theMethod below0 = true := by decide +kernel
set_option maxRecDepth 65536 in
theorem w_ripe : about1.ripe theMethod args0 below0 = true := by decide +kernel
theorem w_running : about1.status = .running := rfl
set_option maxRecDepth 65536 in
theorem w_room : about1.hasRoom e0.platform room_1 = true :=
  launch0.hasRoom_least _ room_1 (by decide +kernel) (by decide +kernel) (by decide +kernel) (by decide +kernel) (by decide +kernel) (by decide +kernel)
theorem allAtoms_all (ts : List Jvm.Cond) (a : Array Jvm.Value) (st : Jvm.State) : (allAtoms ts).before a st = ts.all (fun c => c.before a st) := by
  induction ts with
  | nil => rfl
  | cons c t ih =>
    show (Jvm.Cond.and c (allAtoms t)).before a st = _
    rw [Jvm.Cond.before_and, ih, List.all_cons]
def words1 : List Jvm.Cond := Jvm.Cond.code x code maxLocals ret :: tables_1
/-- a 'code' word, met by the world's own term for the bytes: nothing is compared byte by byte -/
theorem code_word {y : MethodName} {bytes : ByteArray} {mx : Nat} {rt : Option FieldType} {a : Array Value} {s : State} {m : MethodId} {meth : Method} {c : Code} (h1 : s.methodNamed? y = some m) (h2 : s.vm.method? m = some meth) (h3 : meth.code = some c) (h4 : c.code = bytes)
    (h5 : (c.maxLocals == mx && c.exceptionTable.isEmpty && decide (c.maxStack ≤ mostOperands) && decide (meth.sig.returnType = rt) && !meth.locks && decide (parseMethodDescriptor y.desc = some meth.sig)) = true) : (Jvm.Cond.code y bytes mx rt).before a s = true := by
  simp only [Bool.and_eq_true, beq_iff_eq, Bool.not_eq_true', decide_eq_true_eq] at h5
  obtain ⟨⟨⟨⟨⟨g1, g2⟩, g3⟩, g4⟩, g5⟩, g6⟩ := h5
  simp [Cond.before, Cond.holds, Cond.value, h1, h2, h3, h4, g1, g2, g3, g4, g5, g6]
def isCode : Jvm.Cond → Bool
  | .code _ _ _ _ => true
  | _ => false
theorem all_split {L : List Jvm.Cond} {P : Jvm.Cond → Bool} (h1 : L.all (fun c => isCode c || P c) = true) (h2 : ∀ c ∈ L.filter isCode, P c = true) : L.all P = true := by
  refine List.all_eq_true.mpr fun c hc => ?_
  have h := List.all_eq_true.mp h1 c hc
  rcases Bool.eq_false_or_eq_true (isCode c) with hi | hi
  · exact h2 c (List.mem_filter.mpr ⟨hc, hi⟩)
  · simpa [hi] using h
set_option maxRecDepth 65536 in
theorem w_c0 : (Jvm.Cond.code x code maxLocals ret).before args0 about1 = true := code_word (m := ⟨1, 1⟩) (meth := k1m1) (c := k1c1) (by decide +kernel) rfl rfl rfl (by decide +kernel)
set_option maxRecDepth 65536 in
theorem w_c1 : (Jvm.Cond.code ({ cls := "com/example/tempora/tempora/NotedPoints", name := "<init>", desc := "(I)V" } : Jvm.MethodName) prog_16_method_1_code (2 : Nat) (Option.none : Option Jvm.ClassFile.FieldType)).before args0 about1 = true := code_word (m := ⟨2, 0⟩) (meth := k2m0) (c := k2c0) (by decide +kernel) rfl rfl rfl (by decide +kernel)
set_option maxRecDepth 65536 in
theorem w_c2 : (Jvm.Cond.code ({ cls := "java/lang/Object", name := "<init>", desc := "()V" } : Jvm.MethodName) object_method_1_code (1 : Nat) (Option.none : Option Jvm.ClassFile.FieldType)).before args0 about1 = true := code_word (m := ⟨0, 0⟩) (meth := k0m0) (c := k0c0) (by decide +kernel) rfl rfl rfl (by decide +kernel)
set_option maxRecDepth 65536 in
theorem w_c3 : (Jvm.Cond.code ({ cls := "com/example/tempora/tempora/NotedPoints", name := "note", desc := "(I)V" } : Jvm.MethodName) prog_16_method_2_code (2 : Nat) (Option.none : Option Jvm.ClassFile.FieldType)).before args0 about1 = true := code_word (m := ⟨2, 1⟩) (meth := k2m1) (c := k2c1) (by decide +kernel) rfl rfl rfl (by decide +kernel)
set_option maxRecDepth 65536 in
theorem w_c4 : (Jvm.Cond.code ({ cls := "com/example/tempora/tempora/NotedPoints", name := "clear", desc := "()V" } : Jvm.MethodName) prog_16_method_4_code (2 : Nat) (Option.none : Option Jvm.ClassFile.FieldType)).before args0 about1 = true := code_word (m := ⟨2, 3⟩) (meth := k2m3) (c := k2c3) (by decide +kernel) rfl rfl rfl (by decide +kernel)
set_option maxRecDepth 65536 in
theorem w_c5 : (Jvm.Cond.code ({ cls := "com/example/tempora/tempora/NotedPoints", name := "take", desc := "()[I" } : Jvm.MethodName) prog_16_method_3_code (2 : Nat) (Option.some (Jvm.ClassFile.FieldType.array Jvm.ClassFile.FieldType.int))).before args0 about1 = true := code_word (m := ⟨2, 2⟩) (meth := k2m2) (c := k2c2) (by decide +kernel) rfl rfl rfl (by decide +kernel)
set_option maxRecDepth 65536 in
theorem w_c6 : (Jvm.Cond.code ({ cls := "java/util/Arrays", name := "copyOf", desc := "([II)[I" } : Jvm.MethodName) jdk_65_method_123_code (3 : Nat) (Option.some (Jvm.ClassFile.FieldType.array Jvm.ClassFile.FieldType.int))).before args0 about1 = true := code_word (m := ⟨3, 1⟩) (meth := k3m1) (c := k3c1) (by decide +kernel) rfl rfl rfl (by decide +kernel)
set_option maxRecDepth 65536 in
theorem w_c7 : (Jvm.Cond.code ({ cls := "java/lang/Math", name := "min", desc := "(II)I" } : Jvm.MethodName) jdk_29_method_69_code (2 : Nat) (Option.some Jvm.ClassFile.FieldType.int)).before args0 about1 = true := code_word (m := ⟨4, 1⟩) (meth := k4m1) (c := k4c1) (by decide +kernel) rfl rfl rfl (by decide +kernel)
def codes1 : List Jvm.Cond := [Jvm.Cond.code x code maxLocals ret, Jvm.Cond.code ({ cls := "com/example/tempora/tempora/NotedPoints", name := "<init>", desc := "(I)V" } : Jvm.MethodName) prog_16_method_1_code (2 : Nat) (Option.none : Option Jvm.ClassFile.FieldType), Jvm.Cond.code ({ cls := "java/lang/Object", name := "<init>", desc := "()V" } : Jvm.MethodName) object_method_1_code (1 : Nat) (Option.none : Option Jvm.ClassFile.FieldType), Jvm.Cond.code ({ cls := "com/example/tempora/tempora/NotedPoints", name := "note", desc := "(I)V" } : Jvm.MethodName) prog_16_method_2_code (2 : Nat) (Option.none : Option Jvm.ClassFile.FieldType), Jvm.Cond.code ({ cls := "com/example/tempora/tempora/NotedPoints", name := "clear", desc := "()V" } : Jvm.MethodName) prog_16_method_4_code (2 : Nat) (Option.none : Option Jvm.ClassFile.FieldType), Jvm.Cond.code ({ cls := "com/example/tempora/tempora/NotedPoints", name := "take", desc := "()[I" } : Jvm.MethodName) prog_16_method_3_code (2 : Nat) (Option.some (Jvm.ClassFile.FieldType.array Jvm.ClassFile.FieldType.int)), Jvm.Cond.code ({ cls := "java/util/Arrays", name := "copyOf", desc := "([II)[I" } : Jvm.MethodName) jdk_65_method_123_code (3 : Nat) (Option.some (Jvm.ClassFile.FieldType.array Jvm.ClassFile.FieldType.int)), Jvm.Cond.code ({ cls := "java/lang/Math", name := "min", desc := "(II)I" } : Jvm.MethodName) jdk_29_method_69_code (2 : Nat) (Option.some Jvm.ClassFile.FieldType.int)]
set_option maxRecDepth 65536 in
theorem codes_eq : words1.filter isCode = codes1 := rfl
theorem w_codes : ∀ c ∈ words1.filter isCode, c.before args0 about1 = true := by
  rw [codes_eq]
  intro c hc
  simp only [codes1, List.mem_cons, List.not_mem_nil, or_false] at hc
  rcases hc with rfl | rfl | rfl | rfl | rfl | rfl | rfl | rfl
  · exact w_c0
  · exact w_c1
  · exact w_c2
  · exact w_c3
  · exact w_c4
  · exact w_c5
  · exact w_c6
  · exact w_c7
set_option maxRecDepth 65536 in
theorem w_t1 : (words1.take 24).all (fun c => isCode c || c.before args0 about1) = true := by decide +kernel
set_option maxRecDepth 65536 in
theorem w_t2 : (words1.drop 24).all (fun c => isCode c || c.before args0 about1) = true := by decide +kernel
theorem w_tables : (allAtoms (Jvm.Cond.code x code maxLocals ret :: tables_1)).before args0 about1 = true := by
  rw [allAtoms_all]
  show words1.all (fun c => c.before args0 about1) = true
  refine all_split ?_ w_codes
  rw [← List.take_append_drop 24 words1, List.all_append, w_t1, w_t2]
  rfl
set_option maxRecDepth 65536 in
theorem w_case : (Jvm.Cond.and given_1 narrow_1).before args0 about1 = true := by decide +kernel
theorem w_applies : (headSpec (Jvm.Cond.code x code maxLocals ret :: tables_1) room_1).applies x e0.platform about1 = true :=
  (Spec.applies_iff w_frames).mpr ⟨w_running, w_runnable, w_alone, w_named, w_hears, w_ripe, w_room, w_tables⟩
theorem atStart : AtStart classFile x code maxLocals ret World_1 tables_1 room_1 Calls_1 rest_1 Pre_1 launch0 p0 e0 about1 theMethod args0 below0 :=
  ⟨lists_1, trivial, launch0.admits_env _ _ _, launch0.least_env, fairChoices_fair.cas, fairChoices_fair.clock, w_frames, w_args, w_heap, w_applies, trivial, trivial, w_case⟩
end start1
theorem witness_1 : WitnessClaimed_1 := ⟨start1.p0, start1.e0, start1.about1, start1.theMethod, start1.args0, start1.below0, start1.atStart⟩
end Jvm.Pilot.@@N@@
