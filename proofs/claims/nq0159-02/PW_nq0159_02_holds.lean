import PyProof.Rows.All
import Wide.All
import OpenK.AllK
import Wide.FinOn
import PySem.Challenge.RW_nq0159_02
open PySem PySem.W PyProof.Rows
set_option Elab.async false
set_option linter.all false
set_option genSizeOf false
set_option tactic.hygienic false
section
open PySem.Calls
set_option maxRecDepth 100000
namespace Mine
theorem xEA {a : Sort _} {A B : a → Prop} {P : Prop} (h : ∃ x, A x ∧ B x) (k : ∀ x, A x → B x → P) : P := h.elim fun x g0 => k x g0.1 g0.2
theorem xA {A B : Prop} {P : Prop} (h : A ∧ B) (k : A → B → P) : P := k h.1 h.2
theorem xE {a : Sort _} {A : a → Prop} {P : Prop} (h : ∃ x, A x) (k : ∀ x, A x → P) : P := h.elim fun x g0 => k x g0
theorem xEAA {a : Sort _} {A B C : a → Prop} {P : Prop} (h : ∃ x, A x ∧ B x ∧ C x) (k : ∀ x, A x → B x → C x → P) : P := h.elim fun x g0 => k x g0.1 g0.2.1 g0.2.2
theorem xAA {A B C : Prop} {P : Prop} (h : A ∧ B ∧ C) (k : A → B → C → P) : P := k h.1 h.2.1 h.2.2
theorem xEEAA {a : Sort _} {b : Sort _} {A B C : a → b → Prop} {P : Prop} (h : ∃ x, ∃ y, A x y ∧ B x y ∧ C x y) (k : ∀ x y, A x y → B x y → C x y → P) : P := h.elim fun x g0 => g0.elim fun y g1 => k x y g1.1 g1.2.1 g1.2.2
theorem xEE {a : Sort _} {b : Sort _} {A : a → b → Prop} {P : Prop} (h : ∃ x, ∃ y, A x y) (k : ∀ x y, A x y → P) : P := h.elim fun x g0 => g0.elim fun y g1 => k x y g1
theorem xEEA {a : Sort _} {b : Sort _} {A B : a → b → Prop} {P : Prop} (h : ∃ x, ∃ y, A x y ∧ B x y) (k : ∀ x y, A x y → B x y → P) : P := h.elim fun x g0 => g0.elim fun y g1 => k x y g1.1 g1.2
theorem xEEEAA {a : Sort _} {b : Sort _} {c : Sort _} {A B C : a → b → c → Prop} {P : Prop} (h : ∃ x, ∃ y, ∃ z, A x y z ∧ B x y z ∧ C x y z) (k : ∀ x y z, A x y z → B x y z → C x y z → P) : P := h.elim fun x g0 => g0.elim fun y g1 => g1.elim fun z g2 => k x y z g2.1 g2.2.1 g2.2.2
theorem xEEAAA {a : Sort _} {b : Sort _} {A B C D : a → b → Prop} {P : Prop} (h : ∃ x, ∃ y, A x y ∧ B x y ∧ C x y ∧ D x y) (k : ∀ x y, A x y → B x y → C x y → D x y → P) : P := h.elim fun x g0 => g0.elim fun y g1 => k x y g1.1 g1.2.1 g1.2.2.1 g1.2.2.2
theorem xEEEAAA {a : Sort _} {b : Sort _} {c : Sort _} {A B C D : a → b → c → Prop} {P : Prop} (h : ∃ x, ∃ y, ∃ z, A x y z ∧ B x y z ∧ C x y z ∧ D x y z) (k : ∀ x y z, A x y z → B x y z → C x y z → D x y z → P) : P := h.elim fun x g0 => g0.elim fun y g1 => g1.elim fun z g2 => k x y z g2.1 g2.2.1 g2.2.2.1 g2.2.2.2
theorem xEAAA {a : Sort _} {A B C D : a → Prop} {P : Prop} (h : ∃ x, A x ∧ B x ∧ C x ∧ D x) (k : ∀ x, A x → B x → C x → D x → P) : P := h.elim fun x g0 => k x g0.1 g0.2.1 g0.2.2.1 g0.2.2.2
theorem xEEEAAAAA {a : Sort _} {b : Sort _} {c : Sort _} {A B C D E F : a → b → c → Prop} {P : Prop} (h : ∃ x, ∃ y, ∃ z, A x y z ∧ B x y z ∧ C x y z ∧ D x y z ∧ E x y z ∧ F x y z) (k : ∀ x y z, A x y z → B x y z → C x y z → D x y z → E x y z → F x y z → P) : P := h.elim fun x g0 => g0.elim fun y g1 => g1.elim fun z g2 => k x y z g2.1 g2.2.1 g2.2.2.1 g2.2.2.2.1 g2.2.2.2.2.1 g2.2.2.2.2.2
theorem xAEEA {a : Sort _} {b : Sort _} {A : Prop} {B C : a → b → Prop} {P : Prop} (h : A ∧ ∃ x, ∃ y, B x y ∧ C x y) (k : A → ∀ x y, B x y → C x y → P) : P := h.2.elim fun x g0 => g0.elim fun y g1 => k h.1 x y g1.1 g1.2
theorem xAAAAA {A B C D E F : Prop} {P : Prop} (h : A ∧ B ∧ C ∧ D ∧ E ∧ F) (k : A → B → C → D → E → F → P) : P := k h.1 h.2.1 h.2.2.1 h.2.2.2.1 h.2.2.2.2.1 h.2.2.2.2.2
theorem xEEEEEAAAAA {a : Sort _} {b : Sort _} {c : Sort _} {d : Sort _} {e : Sort _} {A B C D E F : a → b → c → d → e → Prop} {P : Prop} (h : ∃ x, ∃ y, ∃ z, ∃ u, ∃ v, A x y z u v ∧ B x y z u v ∧ C x y z u v ∧ D x y z u v ∧ E x y z u v ∧ F x y z u v) (k : ∀ x y z u v, A x y z u v → B x y z u v → C x y z u v → D x y z u v → E x y z u v → F x y z u v → P) : P := h.elim fun x g0 => g0.elim fun y g1 => g1.elim fun z g2 => g2.elim fun u g3 => g3.elim fun v g4 => k x y z u v g4.1 g4.2.1 g4.2.2.1 g4.2.2.2.1 g4.2.2.2.2.1 g4.2.2.2.2.2
theorem xEEEA {a : Sort _} {b : Sort _} {c : Sort _} {A B : a → b → c → Prop} {P : Prop} (h : ∃ x, ∃ y, ∃ z, A x y z ∧ B x y z) (k : ∀ x y z, A x y z → B x y z → P) : P := h.elim fun x g0 => g0.elim fun y g1 => g1.elim fun z g2 => k x y z g2.1 g2.2
theorem xAAAA {A B C D E : Prop} {P : Prop} (h : A ∧ B ∧ C ∧ D ∧ E) (k : A → B → C → D → E → P) : P := k h.1 h.2.1 h.2.2.1 h.2.2.2.1 h.2.2.2.2
theorem xAAA {A B C D : Prop} {P : Prop} (h : A ∧ B ∧ C ∧ D) (k : A → B → C → D → P) : P := k h.1 h.2.1 h.2.2.1 h.2.2.2
theorem xEEAAAA {a : Sort _} {b : Sort _} {A B C D E : a → b → Prop} {P : Prop} (h : ∃ x, ∃ y, A x y ∧ B x y ∧ C x y ∧ D x y ∧ E x y) (k : ∀ x y, A x y → B x y → C x y → D x y → E x y → P) : P := h.elim fun x g0 => g0.elim fun y g1 => k x y g1.1 g1.2.1 g1.2.2.1 g1.2.2.2.1 g1.2.2.2.2
theorem xEEAAAAA {a : Sort _} {b : Sort _} {A B C D E F : a → b → Prop} {P : Prop} (h : ∃ x, ∃ y, A x y ∧ B x y ∧ C x y ∧ D x y ∧ E x y ∧ F x y) (k : ∀ x y, A x y → B x y → C x y → D x y → E x y → F x y → P) : P := h.elim fun x g0 => g0.elim fun y g1 => k x y g1.1 g1.2.1 g1.2.2.1 g1.2.2.2.1 g1.2.2.2.2.1 g1.2.2.2.2.2
theorem xEEEEAAAAAA {a : Sort _} {b : Sort _} {c : Sort _} {d : Sort _} {A B C D E F G : a → b → c → d → Prop} {P : Prop} (h : ∃ x, ∃ y, ∃ z, ∃ u, A x y z u ∧ B x y z u ∧ C x y z u ∧ D x y z u ∧ E x y z u ∧ F x y z u ∧ G x y z u) (k : ∀ x y z u, A x y z u → B x y z u → C x y z u → D x y z u → E x y z u → F x y z u → G x y z u → P) : P := h.elim fun x g0 => g0.elim fun y g1 => g1.elim fun z g2 => g2.elim fun u g3 => k x y z u g3.1 g3.2.1 g3.2.2.1 g3.2.2.2.1 g3.2.2.2.2.1 g3.2.2.2.2.2.1 g3.2.2.2.2.2.2
theorem xEEEAAAAAAA {a : Sort _} {b : Sort _} {c : Sort _} {A B C D E F G H : a → b → c → Prop} {P : Prop} (h : ∃ x, ∃ y, ∃ z, A x y z ∧ B x y z ∧ C x y z ∧ D x y z ∧ E x y z ∧ F x y z ∧ G x y z ∧ H x y z) (k : ∀ x y z, A x y z → B x y z → C x y z → D x y z → E x y z → F x y z → G x y z → H x y z → P) : P := h.elim fun x g0 => g0.elim fun y g1 => g1.elim fun z g2 => k x y z g2.1 g2.2.1 g2.2.2.1 g2.2.2.2.1 g2.2.2.2.2.1 g2.2.2.2.2.2.1 g2.2.2.2.2.2.2.1 g2.2.2.2.2.2.2.2
theorem xEEEAAAA {a : Sort _} {b : Sort _} {c : Sort _} {A B C D E : a → b → c → Prop} {P : Prop} (h : ∃ x, ∃ y, ∃ z, A x y z ∧ B x y z ∧ C x y z ∧ D x y z ∧ E x y z) (k : ∀ x y z, A x y z → B x y z → C x y z → D x y z → E x y z → P) : P := h.elim fun x g0 => g0.elim fun y g1 => g1.elim fun z g2 => k x y z g2.1 g2.2.1 g2.2.2.1 g2.2.2.2.1 g2.2.2.2.2
theorem xEAEAA {a : Sort _} {b : Sort _} {A : a → Prop} {B C D : a → b → Prop} {P : Prop} (h : ∃ x, A x ∧ ∃ y, B x y ∧ C x y ∧ D x y) (k : ∀ x, A x → ∀ y, B x y → C x y → D x y → P) : P := h.elim fun x g0 => g0.2.elim fun y g1 => k x g0.1 y g1.1 g1.2.1 g1.2.2
theorem xEAEA {a : Sort _} {b : Sort _} {A : a → Prop} {B C : a → b → Prop} {P : Prop} (h : ∃ x, A x ∧ ∃ y, B x y ∧ C x y) (k : ∀ x, A x → ∀ y, B x y → C x y → P) : P := h.elim fun x g0 => g0.2.elim fun y g1 => k x g0.1 y g1.1 g1.2
theorem xAAEA {a : Sort _} {A B : Prop} {C D : a → Prop} {P : Prop} (h : A ∧ B ∧ ∃ x, C x ∧ D x) (k : A → B → ∀ x, C x → D x → P) : P := h.2.2.elim fun x g0 => k h.1 h.2.1 x g0.1 g0.2
theorem xEEEEAAAAAAEAA {a : Sort _} {b : Sort _} {c : Sort _} {d : Sort _} {e : Sort _} {A B C D E F : a → b → c → d → Prop} {G H I : a → b → c → d → e → Prop} {P : Prop} (h : ∃ x, ∃ y, ∃ z, ∃ u, A x y z u ∧ B x y z u ∧ C x y z u ∧ D x y z u ∧ E x y z u ∧ F x y z u ∧ ∃ v, G x y z u v ∧ H x y z u v ∧ I x y z u v) (k : ∀ x y z u, A x y z u → B x y z u → C x y z u → D x y z u → E x y z u → F x y z u → ∀ v, G x y z u v → H x y z u v → I x y z u v → P) : P := h.elim fun x g0 => g0.elim fun y g1 => g1.elim fun z g2 => g2.elim fun u g3 => g3.2.2.2.2.2.2.elim fun v g4 => k x y z u g3.1 g3.2.1 g3.2.2.1 g3.2.2.2.1 g3.2.2.2.2.1 g3.2.2.2.2.2.1 v g4.1 g4.2.1 g4.2.2
theorem xAEA {a : Sort _} {A : Prop} {B C : a → Prop} {P : Prop} (h : A ∧ ∃ x, B x ∧ C x) (k : A → ∀ x, B x → C x → P) : P := h.2.elim fun x g0 => k h.1 x g0.1 g0.2
theorem xAAEEAAA {a : Sort _} {b : Sort _} {A B : Prop} {C D E F : a → b → Prop} {P : Prop} (h : A ∧ B ∧ ∃ x, ∃ y, C x y ∧ D x y ∧ E x y ∧ F x y) (k : A → B → ∀ x y, C x y → D x y → E x y → F x y → P) : P := h.2.2.elim fun x g0 => g0.elim fun y g1 => k h.1 h.2.1 x y g1.1 g1.2.1 g1.2.2.1 g1.2.2.2
theorem xEEEEEEAAAAAAA {a : Sort _} {b : Sort _} {c : Sort _} {d : Sort _} {e : Sort _} {f : Sort _} {A B C D E F G H : a → b → c → d → e → f → Prop} {P : Prop} (h : ∃ x, ∃ y, ∃ z, ∃ u, ∃ v, ∃ w, A x y z u v w ∧ B x y z u v w ∧ C x y z u v w ∧ D x y z u v w ∧ E x y z u v w ∧ F x y z u v w ∧ G x y z u v w ∧ H x y z u v w) (k : ∀ x y z u v w, A x y z u v w → B x y z u v w → C x y z u v w → D x y z u v w → E x y z u v w → F x y z u v w → G x y z u v w → H x y z u v w → P) : P := h.elim fun x g0 => g0.elim fun y g1 => g1.elim fun z g2 => g2.elim fun u g3 => g3.elim fun v g4 => g4.elim fun w g5 => k x y z u v w g5.1 g5.2.1 g5.2.2.1 g5.2.2.2.1 g5.2.2.2.2.1 g5.2.2.2.2.2.1 g5.2.2.2.2.2.2.1 g5.2.2.2.2.2.2.2
theorem xEEEEAAAA {a : Sort _} {b : Sort _} {c : Sort _} {d : Sort _} {A B C D E : a → b → c → d → Prop} {P : Prop} (h : ∃ x, ∃ y, ∃ z, ∃ u, A x y z u ∧ B x y z u ∧ C x y z u ∧ D x y z u ∧ E x y z u) (k : ∀ x y z u, A x y z u → B x y z u → C x y z u → D x y z u → E x y z u → P) : P := h.elim fun x g0 => g0.elim fun y g1 => g1.elim fun z g2 => g2.elim fun u g3 => k x y z u g3.1 g3.2.1 g3.2.2.1 g3.2.2.2.1 g3.2.2.2.2
theorem xEEEEAA {a : Sort _} {b : Sort _} {c : Sort _} {d : Sort _} {A B C : a → b → c → d → Prop} {P : Prop} (h : ∃ x, ∃ y, ∃ z, ∃ u, A x y z u ∧ B x y z u ∧ C x y z u) (k : ∀ x y z u, A x y z u → B x y z u → C x y z u → P) : P := h.elim fun x g0 => g0.elim fun y g1 => g1.elim fun z g2 => g2.elim fun u g3 => k x y z u g3.1 g3.2.1 g3.2.2
theorem xEEEEA {a : Sort _} {b : Sort _} {c : Sort _} {d : Sort _} {A B : a → b → c → d → Prop} {P : Prop} (h : ∃ x, ∃ y, ∃ z, ∃ u, A x y z u ∧ B x y z u) (k : ∀ x y z u, A x y z u → B x y z u → P) : P := h.elim fun x g0 => g0.elim fun y g1 => g1.elim fun z g2 => g2.elim fun u g3 => k x y z u g3.1 g3.2
theorem xEEEAAAAAAAA {a : Sort _} {b : Sort _} {c : Sort _} {A B C D E F G H I : a → b → c → Prop} {P : Prop} (h : ∃ x, ∃ y, ∃ z, A x y z ∧ B x y z ∧ C x y z ∧ D x y z ∧ E x y z ∧ F x y z ∧ G x y z ∧ H x y z ∧ I x y z) (k : ∀ x y z, A x y z → B x y z → C x y z → D x y z → E x y z → F x y z → G x y z → H x y z → I x y z → P) : P := h.elim fun x g0 => g0.elim fun y g1 => g1.elim fun z g2 => k x y z g2.1 g2.2.1 g2.2.2.1 g2.2.2.2.1 g2.2.2.2.2.1 g2.2.2.2.2.2.1 g2.2.2.2.2.2.2.1 g2.2.2.2.2.2.2.2.1 g2.2.2.2.2.2.2.2.2
theorem xEAAE {a : Sort _} {b : Sort _} {A B : a → Prop} {C : a → b → Prop} {P : Prop} (h : ∃ x, A x ∧ B x ∧ ∃ y, C x y) (k : ∀ x, A x → B x → ∀ y, C x y → P) : P := h.elim fun x g0 => g0.2.2.elim fun y g1 => k x g0.1 g0.2.1 y g1
theorem xAEEAA {a : Sort _} {b : Sort _} {A : Prop} {B C D : a → b → Prop} {P : Prop} (h : A ∧ ∃ x, ∃ y, B x y ∧ C x y ∧ D x y) (k : A → ∀ x y, B x y → C x y → D x y → P) : P := h.2.elim fun x g0 => g0.elim fun y g1 => k h.1 x y g1.1 g1.2.1 g1.2.2
theorem xAAEEEAAAA {a : Sort _} {b : Sort _} {c : Sort _} {A B : Prop} {C D E F G : a → b → c → Prop} {P : Prop} (h : A ∧ B ∧ ∃ x, ∃ y, ∃ z, C x y z ∧ D x y z ∧ E x y z ∧ F x y z ∧ G x y z) (k : A → B → ∀ x y z, C x y z → D x y z → E x y z → F x y z → G x y z → P) : P := h.2.2.elim fun x g0 => g0.elim fun y g1 => g1.elim fun z g2 => k h.1 h.2.1 x y z g2.1 g2.2.1 g2.2.2.1 g2.2.2.2.1 g2.2.2.2.2
theorem xAAAEAA {a : Sort _} {A B C : Prop} {D E F : a → Prop} {P : Prop} (h : A ∧ B ∧ C ∧ ∃ x, D x ∧ E x ∧ F x) (k : A → B → C → ∀ x, D x → E x → F x → P) : P := h.2.2.2.elim fun x g0 => k h.1 h.2.1 h.2.2.1 x g0.1 g0.2.1 g0.2.2
theorem xEEEEEEEEEEEEEEEEEAAA {a : Sort _} {b : Sort _} {c : Sort _} {d : Sort _} {e : Sort _} {f : Sort _} {g : Sort _} {i : Sort _} {j : Sort _} {l : Sort _} {m : Sort _} {n : Sort _} {o : Sort _} {q : Sort _} {r : Sort _} {s : Sort _} {t : Sort _} {A B C D : a → b → c → d → e → f → g → i → j → l → m → n → o → q → r → s → t → Prop} {P : Prop} (h : ∃ x, ∃ y, ∃ z, ∃ u, ∃ v, ∃ w, ∃ r, ∃ s, ∃ t, ∃ q, ∃ m, ∃ n, ∃ i, ∃ j, ∃ l, ∃ a, ∃ b, A x y z u v w r s t q m n i j l a b ∧ B x y z u v w r s t q m n i j l a b ∧ C x y z u v w r s t q m n i j l a b ∧ D x y z u v w r s t q m n i j l a b) (k : ∀ x y z u v w r s t q m n i j l a b, A x y z u v w r s t q m n i j l a b → B x y z u v w r s t q m n i j l a b → C x y z u v w r s t q m n i j l a b → D x y z u v w r s t q m n i j l a b → P) : P := h.elim fun x g0 => g0.elim fun y g1 => g1.elim fun z g2 => g2.elim fun u g3 => g3.elim fun v g4 => g4.elim fun w g5 => g5.elim fun r g6 => g6.elim fun s g7 => g7.elim fun t g8 => g8.elim fun q g9 => g9.elim fun m g10 => g10.elim fun n g11 => g11.elim fun i g12 => g12.elim fun j g13 => g13.elim fun l g14 => g14.elim fun a g15 => g15.elim fun b g16 => k x y z u v w r s t q m n i j l a b g16.1 g16.2.1 g16.2.2.1 g16.2.2.2
theorem xEEEEEEEEAAAA {a : Sort _} {b : Sort _} {c : Sort _} {d : Sort _} {e : Sort _} {f : Sort _} {g : Sort _} {i : Sort _} {A B C D E : a → b → c → d → e → f → g → i → Prop} {P : Prop} (h : ∃ x, ∃ y, ∃ z, ∃ u, ∃ v, ∃ w, ∃ r, ∃ s, A x y z u v w r s ∧ B x y z u v w r s ∧ C x y z u v w r s ∧ D x y z u v w r s ∧ E x y z u v w r s) (k : ∀ x y z u v w r s, A x y z u v w r s → B x y z u v w r s → C x y z u v w r s → D x y z u v w r s → E x y z u v w r s → P) : P := h.elim fun x g0 => g0.elim fun y g1 => g1.elim fun z g2 => g2.elim fun u g3 => g3.elim fun v g4 => g4.elim fun w g5 => g5.elim fun r g6 => g6.elim fun s g7 => k x y z u v w r s g7.1 g7.2.1 g7.2.2.1 g7.2.2.2.1 g7.2.2.2.2
theorem xEEEEEEAAAAAAAAAAA {a : Sort _} {b : Sort _} {c : Sort _} {d : Sort _} {e : Sort _} {f : Sort _} {A B C D E F G H I J K L : a → b → c → d → e → f → Prop} {P : Prop} (h : ∃ x, ∃ y, ∃ z, ∃ u, ∃ v, ∃ w, A x y z u v w ∧ B x y z u v w ∧ C x y z u v w ∧ D x y z u v w ∧ E x y z u v w ∧ F x y z u v w ∧ G x y z u v w ∧ H x y z u v w ∧ I x y z u v w ∧ J x y z u v w ∧ K x y z u v w ∧ L x y z u v w) (k : ∀ x y z u v w, A x y z u v w → B x y z u v w → C x y z u v w → D x y z u v w → E x y z u v w → F x y z u v w → G x y z u v w → H x y z u v w → I x y z u v w → J x y z u v w → K x y z u v w → L x y z u v w → P) : P := h.elim fun x g0 => g0.elim fun y g1 => g1.elim fun z g2 => g2.elim fun u g3 => g3.elim fun v g4 => g4.elim fun w g5 => k x y z u v w g5.1 g5.2.1 g5.2.2.1 g5.2.2.2.1 g5.2.2.2.2.1 g5.2.2.2.2.2.1 g5.2.2.2.2.2.2.1 g5.2.2.2.2.2.2.2.1 g5.2.2.2.2.2.2.2.2.1 g5.2.2.2.2.2.2.2.2.2.1 g5.2.2.2.2.2.2.2.2.2.2.1 g5.2.2.2.2.2.2.2.2.2.2.2
theorem xEEEEEAAAAAAAAA {a : Sort _} {b : Sort _} {c : Sort _} {d : Sort _} {e : Sort _} {A B C D E F G H I J : a → b → c → d → e → Prop} {P : Prop} (h : ∃ x, ∃ y, ∃ z, ∃ u, ∃ v, A x y z u v ∧ B x y z u v ∧ C x y z u v ∧ D x y z u v ∧ E x y z u v ∧ F x y z u v ∧ G x y z u v ∧ H x y z u v ∧ I x y z u v ∧ J x y z u v) (k : ∀ x y z u v, A x y z u v → B x y z u v → C x y z u v → D x y z u v → E x y z u v → F x y z u v → G x y z u v → H x y z u v → I x y z u v → J x y z u v → P) : P := h.elim fun x g0 => g0.elim fun y g1 => g1.elim fun z g2 => g2.elim fun u g3 => g3.elim fun v g4 => k x y z u v g4.1 g4.2.1 g4.2.2.1 g4.2.2.2.1 g4.2.2.2.2.1 g4.2.2.2.2.2.1 g4.2.2.2.2.2.2.1 g4.2.2.2.2.2.2.2.1 g4.2.2.2.2.2.2.2.2.1 g4.2.2.2.2.2.2.2.2.2
theorem xEEEEEAAA {a : Sort _} {b : Sort _} {c : Sort _} {d : Sort _} {e : Sort _} {A B C D : a → b → c → d → e → Prop} {P : Prop} (h : ∃ x, ∃ y, ∃ z, ∃ u, ∃ v, A x y z u v ∧ B x y z u v ∧ C x y z u v ∧ D x y z u v) (k : ∀ x y z u v, A x y z u v → B x y z u v → C x y z u v → D x y z u v → P) : P := h.elim fun x g0 => g0.elim fun y g1 => g1.elim fun z g2 => g2.elim fun u g3 => g3.elim fun v g4 => k x y z u v g4.1 g4.2.1 g4.2.2.1 g4.2.2.2
theorem xEEEEEA {a : Sort _} {b : Sort _} {c : Sort _} {d : Sort _} {e : Sort _} {A B : a → b → c → d → e → Prop} {P : Prop} (h : ∃ x, ∃ y, ∃ z, ∃ u, ∃ v, A x y z u v ∧ B x y z u v) (k : ∀ x y z u v, A x y z u v → B x y z u v → P) : P := h.elim fun x g0 => g0.elim fun y g1 => g1.elim fun z g2 => g2.elim fun u g3 => g3.elim fun v g4 => k x y z u v g4.1 g4.2
theorem xEAEEEEAA {a : Sort _} {b : Sort _} {c : Sort _} {d : Sort _} {e : Sort _} {A : a → Prop} {B C D : a → b → c → d → e → Prop} {P : Prop} (h : ∃ x, A x ∧ ∃ y, ∃ z, ∃ u, ∃ v, B x y z u v ∧ C x y z u v ∧ D x y z u v) (k : ∀ x, A x → ∀ y z u v, B x y z u v → C x y z u v → D x y z u v → P) : P := h.elim fun x g0 => g0.2.elim fun y g1 => g1.elim fun z g2 => g2.elim fun u g3 => g3.elim fun v g4 => k x g0.1 y z u v g4.1 g4.2.1 g4.2.2
theorem xEAEEA {a : Sort _} {b : Sort _} {c : Sort _} {A : a → Prop} {B C : a → b → c → Prop} {P : Prop} (h : ∃ x, A x ∧ ∃ y, ∃ z, B x y z ∧ C x y z) (k : ∀ x, A x → ∀ y z, B x y z → C x y z → P) : P := h.elim fun x g0 => g0.2.elim fun y g1 => g1.elim fun z g2 => k x g0.1 y z g2.1 g2.2
theorem xEAAAA {a : Sort _} {A B C D E : a → Prop} {P : Prop} (h : ∃ x, A x ∧ B x ∧ C x ∧ D x ∧ E x) (k : ∀ x, A x → B x → C x → D x → E x → P) : P := h.elim fun x g0 => k x g0.1 g0.2.1 g0.2.2.1 g0.2.2.2.1 g0.2.2.2.2
theorem xAEEEAAA {a : Sort _} {b : Sort _} {c : Sort _} {A : Prop} {B C D E : a → b → c → Prop} {P : Prop} (h : A ∧ ∃ x, ∃ y, ∃ z, B x y z ∧ C x y z ∧ D x y z ∧ E x y z) (k : A → ∀ x y z, B x y z → C x y z → D x y z → E x y z → P) : P := h.2.elim fun x g0 => g0.elim fun y g1 => g1.elim fun z g2 => k h.1 x y z g2.1 g2.2.1 g2.2.2.1 g2.2.2.2
theorem xAEEEA {a : Sort _} {b : Sort _} {c : Sort _} {A : Prop} {B C : a → b → c → Prop} {P : Prop} (h : A ∧ ∃ x, ∃ y, ∃ z, B x y z ∧ C x y z) (k : A → ∀ x y z, B x y z → C x y z → P) : P := h.2.elim fun x g0 => g0.elim fun y g1 => g1.elim fun z g2 => k h.1 x y z g2.1 g2.2
theorem xAEAAA {a : Sort _} {A : Prop} {B C D E : a → Prop} {P : Prop} (h : A ∧ ∃ x, B x ∧ C x ∧ D x ∧ E x) (k : A → ∀ x, B x → C x → D x → E x → P) : P := h.2.elim fun x g0 => k h.1 x g0.1 g0.2.1 g0.2.2.1 g0.2.2.2
theorem xAEAA {a : Sort _} {A : Prop} {B C D : a → Prop} {P : Prop} (h : A ∧ ∃ x, B x ∧ C x ∧ D x) (k : A → ∀ x, B x → C x → D x → P) : P := h.2.elim fun x g0 => k h.1 x g0.1 g0.2.1 g0.2.2
theorem xAE {a : Sort _} {A : Prop} {B : a → Prop} {P : Prop} (h : A ∧ ∃ x, B x) (k : A → ∀ x, B x → P) : P := h.2.elim fun x g0 => k h.1 x g0
theorem xAAEEAA {a : Sort _} {b : Sort _} {A B : Prop} {C D E : a → b → Prop} {P : Prop} (h : A ∧ B ∧ ∃ x, ∃ y, C x y ∧ D x y ∧ E x y) (k : A → B → ∀ x y, C x y → D x y → E x y → P) : P := h.2.2.elim fun x g0 => g0.elim fun y g1 => k h.1 h.2.1 x y g1.1 g1.2.1 g1.2.2
theorem xAAEEA {a : Sort _} {b : Sort _} {A B : Prop} {C D : a → b → Prop} {P : Prop} (h : A ∧ B ∧ ∃ x, ∃ y, C x y ∧ D x y) (k : A → B → ∀ x y, C x y → D x y → P) : P := h.2.2.elim fun x g0 => g0.elim fun y g1 => k h.1 h.2.1 x y g1.1 g1.2
theorem xAAAAAA {A B C D E F G : Prop} {P : Prop} (h : A ∧ B ∧ C ∧ D ∧ E ∧ F ∧ G) (k : A → B → C → D → E → F → G → P) : P := k h.1 h.2.1 h.2.2.1 h.2.2.2.1 h.2.2.2.2.1 h.2.2.2.2.2.1 h.2.2.2.2.2.2
theorem ite_t {c : Prop} {d : Decidable c} {a b : Prop} (h : c) (k : a) : @ite Prop c d a b := by
 rw [if_pos h]; exact k
theorem ite_f {c : Prop} {d : Decidable c} {a b : Prop} (h : ¬ c) (k : b) : @ite Prop c d a b := by
 rw [if_neg h]; exact k
theorem xns {α : Type _} {a : α} {P : Prop} (h : none = some a) : P := by cases h
theorem xsn {α : Type _} {a : α} {P : Prop} (h : some a = none) : P := by cases h
theorem xft {P : Prop} (h : false = true) : P := by cases h
theorem xtf {P : Prop} (h : true = false) : P := by cases h
theorem xnc {α : Type _} {a : α} {l : List α} {P : Prop} (h : [] = a :: l) : P := by cases h
theorem xcn {α : Type _} {a : α} {l : List α} {P : Prop} (h : a :: l = []) : P := by cases h
theorem xmn {α : Type _} {a : α} {P : Prop} (h : a ∈ []) : P := by cases h
inductive AV where
 | none
 | bool (b : Bool)
 | int (i : Int)
 | str (x : Str)
 | ref (a : Addr)
 | tup (l : List AV)
 | lst (l : List AV)
deriving Inhabited
noncomputable def tagV : AV → Nat
 | .none => 0
 | .bool _ => 1
 | .int _ => 2
 | .str _ => 3
 | .ref _ => 4
 | .tup _ => 5
 | .lst _ => 6
theorem xav {a b : AV} {P : Prop} (h : a = b) (e : Nat.beq (tagV a) (tagV b) = false) : P := by
 subst h; rw [Nat.beq_refl] at e; cases e
noncomputable abbrev lstObj (vs : List Value) (n : Nat) : Obj := { cls := .type "list", data := .seq vs.toArray n }
noncomputable abbrev tupObj (vs : List Value) (n : Nat) : Obj := { cls := .type "tuple", data := .seq vs.toArray n }
mutual
inductive VR (h : Heap) : AV → Value → Prop
 | none : VR h .none .none
 | bool (b : Bool) : VR h (.bool b) (.bool b)
 | int (i : Int) (t : Tok) : VR h (.int i) (.int i t)
 | str (x : Str) (t : Tok) : VR h (.str x) (.str x t)
 | ref (a : Addr) : VR h (.ref a) (.ref a)
 | tup {l : List AV} {a : Addr} {vs : List Value} {n : Nat} : h.get? a = some (tupObj vs n) → VRs h l vs → VR h (.tup l) (.ref a)
 | lst {l : List AV} {a : Addr} {vs : List Value} {n : Nat} : h.get? a = some (lstObj vs n) → VRs h l vs → VR h (.lst l) (.ref a)
inductive VRs (h : Heap) : List AV → List Value → Prop
 | nil : VRs h [] []
 | cons {a : AV} {l : List AV} {v : Value} {vs : List Value} : VR h a v → VRs h l vs → VRs h (a :: l) (v :: vs)
end
theorem VR.onNone {h : Heap} {v : Value} {P : Value → Prop} (H : VR h .none v) (k : P .none) : P v := by cases H; exact k
theorem VR.onBool {h : Heap} {b : Bool} {v : Value} {P : Value → Prop} (H : VR h (.bool b) v) (k : P (.bool b)) : P v := by cases H; exact k
theorem VR.onInt {h : Heap} {i : Int} {v : Value} {P : Value → Prop} (H : VR h (.int i) v) (k : ∀ t, P (.int i t)) : P v := by cases H; exact k _
theorem VR.onStr {h : Heap} {x : Str} {v : Value} {P : Value → Prop} (H : VR h (.str x) v) (k : ∀ t, P (.str x t)) : P v := by cases H; exact k _
theorem VR.onRef {h : Heap} {a : Addr} {v : Value} {P : Value → Prop} (H : VR h (.ref a) v) (k : P (.ref a)) : P v := by cases H; exact k
theorem VR.onTup {h : Heap} {l : List AV} {v : Value} {P : Value → Prop} (H : VR h (.tup l) v) (k : ∀ a vs n, h.get? a = some (tupObj vs n) → VRs h l vs → P (.ref a)) : P v := by cases H; exact k _ _ _ ‹_› ‹_›
theorem VR.onLst {h : Heap} {l : List AV} {v : Value} {P : Value → Prop} (H : VR h (.lst l) v) (k : ∀ a vs n, h.get? a = some (lstObj vs n) → VRs h l vs → P (.ref a)) : P v := by cases H; exact k _ _ _ ‹_› ‹_›
theorem VRs.onNil {h : Heap} {v : List Value} {P : List Value → Prop} (H : VRs h [] v) (k : P []) : P v := by cases H; exact k
theorem VRs.onCons {h : Heap} {a : AV} {l : List AV} {v : List Value} {P : List Value → Prop} (H : VRs h (a :: l) v) (k : ∀ x vs, VR h a x → VRs h l vs → P (x :: vs)) : P v := by cases H; exact k _ _ ‹_› ‹_›
noncomputable def Sub (h h' : Heap) : Prop := ∀ b o, h.get? b = some o → h'.get? b = some o
theorem Sub.refl (h : Heap) : Sub h h := fun _ _ e => e
theorem Sub.trans {a b c : Heap} (x : Sub a b) (y : Sub b c) : Sub a c := fun q o e => y q o (x q o e)
theorem Sub.push (h : Heap) (o : Obj) : Sub h (h.push o) := fun _ _ e => Heap.get?_push_of_some o e
mutual
theorem VR.mono {h h' : Heap} (k : Sub h h') : ∀ {a : AV} {v : Value}, VR h a v → VR h' a v
 | _, _, .none => .none
 | _, _, .bool b => .bool b
 | _, _, .int i t => .int i t
 | _, _, .str x t => .str x t
 | _, _, .ref a => .ref a
 | _, _, .tup e r => .tup (k _ _ e) (VRs.mono k r)
 | _, _, .lst e r => .lst (k _ _ e) (VRs.mono k r)
theorem VRs.mono {h h' : Heap} (k : Sub h h') : ∀ {l : List AV} {vs : List Value}, VRs h l vs → VRs h' l vs
 | _, _, .nil => .nil
 | _, _, .cons a r => .cons (VR.mono k a) (VRs.mono k r)
end
theorem VRs.length {h : Heap} {l : List AV} {vs : List Value} (x : VRs h l vs) : vs.length = l.length := by
 induction l generalizing vs with
 | nil => cases x; rfl
 | cons a l ih => cases x with | cons p q => simp [ih q]
theorem VRs.append {h : Heap} {l l' : List AV} {vs vs' : List Value} (x : VRs h l vs) (y : VRs h l' vs') : VRs h (l ++ l') (vs ++ vs') := by
 induction l generalizing vs with
 | nil => cases x; exact y
 | cons a l ih => cases x with | cons p q => exact .cons p (ih q)
theorem VRs.get {h : Heap} {l : List AV} {vs : List Value} (x : VRs h l vs) {k : Nat} {a : AV} (e : l[k]? = some a) : ∃ v, vs[k]? = some v ∧ VR h a v := by
 induction l generalizing vs k with
 | nil => simp at e
 | cons b l ih =>
   cases x with | cons p q =>
   cases k with
   | zero => simp at e; subst e; exact ⟨_, rfl, p⟩
   | succ k => simp at e; simpa using ih q e
theorem VRs.take {h : Heap} {l : List AV} {vs : List Value} (x : VRs h l vs) (k : Nat) : VRs h (l.take k) (vs.take k) := by
 induction l generalizing vs k with
 | nil => cases x; simp; exact .nil
 | cons b l ih =>
   cases x with | cons p q =>
   cases k with
   | zero => simp; exact .nil
   | succ k => simp; exact .cons p (ih q k)
theorem VRs.drop {h : Heap} {l : List AV} {vs : List Value} (x : VRs h l vs) (k : Nat) : VRs h (l.drop k) (vs.drop k) := by
 induction l generalizing vs k with
 | nil => cases x; simp; exact .nil
 | cons b l ih =>
   cases x with | cons p q =>
   cases k with
   | zero => simp; exact .cons p q
   | succ k => simp; exact ih q k
inductive DRs (h : Heap) : List (Str × AV) → List (Str × Value) → Prop
 | nil : DRs h [] []
 | cons {k : Str} {a : AV} {v : Value} {l : List (Str × AV)} {ds : List (Str × Value)} : VR h a v → DRs h l ds → DRs h ((k, a) :: l) ((k, v) :: ds)
theorem DRs.mono {h h' : Heap} (k : Sub h h') {l : List (Str × AV)} {ds : List (Str × Value)} (x : DRs h l ds) : DRs h' l ds := by
 induction x with
 | nil => exact .nil
 | cons p _ ih => exact .cons (p.mono k) ih
theorem DRs.length {h : Heap} {l : List (Str × AV)} {ds : List (Str × Value)} (x : DRs h l ds) : ds.length = l.length := by
 induction x with
 | nil => rfl
 | cons _ _ ih => simp [ih]
structure PC where
 prog : Program
 w : World
 K : Frag
 base : Heap
 view : Program
 loose : List Str
 mg : Str → Option Value
 mb : Str → Option Value
 os : OsState
 gp : Array GenState → Prop
 hK : K.In base
 hT : TopRead view loose mg mb base
inductive AObj where
 | list (l : List AV)
 | dict (es : List (Str × AV)) (ep : Nat)
 | inst (C dx : Addr)
 | slots (C : Addr) (vs : List (Option AV))
 | set (S : Str → Bool) (n : Nat)
 | cell (o : Option AV)
 | raw (o : Obj)
noncomputable def tagA : AObj → Nat
 | .list _ => 0
 | .dict _ _ => 1
 | .inst _ _ => 2
 | .slots _ _ => 3
 | .set _ _ => 4
 | .cell _ => 5
 | .raw _ => 6
theorem xao {a b : AObj} {P : Prop} (h : a = b) (e : Nat.beq (tagA a) (tagA b) = false) : P := by
 subst h; rw [Nat.beq_refl] at e; cases e
noncomputable def SlotR (h : Heap) : Option AV → Option Value → Prop
 | some a, some v => VR h a v
 | .none, .none => True
 | _, _ => False
inductive SlotRs (h : Heap) : List (Option AV) → List (Option Value) → Prop
 | nil : SlotRs h [] []
 | cons {a : Option AV} {l : List (Option AV)} {v : Option Value} {vs : List (Option Value)} : SlotR h a v → SlotRs h l vs → SlotRs h (a :: l) (v :: vs)
theorem SlotR.mono {h h' : Heap} (k : Sub h h') : ∀ {a : Option AV} {v : Option Value}, SlotR h a v → SlotR h' a v
 | some _, some _, x => VR.mono k x
 | .none, .none, _ => trivial
theorem SlotRs.mono {h h' : Heap} (k : Sub h h') {l : List (Option AV)} {vs : List (Option Value)} (x : SlotRs h l vs) : SlotRs h' l vs := by
 induction x with
 | nil => exact .nil
 | cons p _ ih => exact .cons (p.mono k) ih
noncomputable def OOK (p : PC) (h₀ h : Heap) (a : Addr) : AObj → Prop
 | .list l => ∃ vs n, h.get? a = some (lstObj vs n) ∧ VRs h₀ l vs
 | .dict es ep => ∃ ds, h.DictAt (strKind p.prog p.w) a ds ep ∧ DRs h₀ es ds ∧ (a == sysModules) = false
 | .inst C dx => h.get? a = some (instObj C dx)
 | .slots C vs => ∃ sl dx, h.get? a = some { cls := .ref C, dict := some dx, data := .plain, slots := sl.toArray } ∧ SlotRs h₀ vs sl ∧ h₀.get? dx = some emptyDict
 | .set S n => h.SetOf (strKind p.prog p.w) a S n
 | .cell o => ∃ w, h.IsCell a w ∧ SlotR h₀ o w
 | .raw o => h.get? a = some o
theorem OOK.mono₀ {p : PC} {h₀ h₀' h : Heap} (k : Sub h₀ h₀') {a : Addr} {o : AObj} (x : OOK p h₀ h a o) : OOK p h₀' h a o := by
 cases o with
 | list _ => refine xEEA x fun vs n e r => ?_; exact ⟨vs, n, e, r.mono k⟩
 | dict _ _ => refine xEAA x fun ds e r z => ?_; exact ⟨ds, e, r.mono k, z⟩
 | slots _ _ => refine xEEAA x fun sl dx e r z => ?_; exact ⟨sl, dx, e, r.mono k, k _ _ z⟩
 | cell _ => refine xEA x fun w e r => ?_; exact ⟨w, e, r.mono k⟩
 | _ => exact x
theorem OOK.there {p : PC} {h₀ h : Heap} {a : Addr} {o : AObj} (x : OOK p h₀ h a o) : ∃ ob, h.get? a = some ob := by
 cases o with
 | list _ => refine xEEA x fun _ _ e _ => ?_; exact ⟨_, e⟩
 | dict _ _ => refine xEA x fun _ zz1 _ => ?_; obtain ⟨_, _, e, _⟩ := zz1; exact ⟨_, e⟩
 | slots _ _ => refine xEEA x fun _ _ e _ => ?_; exact ⟨_, e⟩
 | set _ _ => refine xEEEEA x fun _ _ _ _ e _ => ?_; exact ⟨_, e⟩
 | cell _ => refine xEA x fun w zz2 _ => ?_; obtain ⟨_, e, _⟩ := zz2; exact ⟨_, e⟩
 | inst _ _ => exact ⟨_, x⟩
 | raw _ => exact ⟨_, x⟩
theorem OOK.same {p : PC} {h₀ h h' : Heap} {a : Addr} (q : h'.get? a = h.get? a) {o : AObj} (x : OOK p h₀ h a o) : OOK p h₀ h' a o := by
 cases o with
 | list _ => refine xEEA x fun vs n e r => ?_; exact ⟨vs, n, q.trans e, r⟩
 | dict _ _ => refine xEA x fun ds zz3 r => ?_; obtain ⟨o, es, e, z⟩ := zz3; exact ⟨ds, ⟨o, es, q.trans e, z⟩, r⟩
 | slots _ _ => refine xEEA x fun sl dx e r => ?_; exact ⟨sl, dx, q.trans e, r⟩
 | set _ _ => refine xEEEEA x fun o es ep t e r => ?_; exact ⟨o, es, ep, t, q.trans e, r⟩
 | cell _ => refine xEA x fun w zz4 r => ?_; obtain ⟨o, e, d⟩ := zz4; exact ⟨w, ⟨o, q.trans e, d⟩, r⟩
 | inst _ _ => exact q.trans x
 | raw _ => exact q.trans x
inductive HC where
 | raw (o : Obj)
 | frame (m : Str → Option Value)
noncomputable def HOK (h : Heap) (a : Addr) : HC → Prop
 | .raw o => h.get? a = some o
 | .frame m => h.Ns a m
theorem HOK.there {h : Heap} {a : Addr} : ∀ {c : HC}, HOK h a c → ∃ ob, h.get? a = some ob
 | .raw _, e => ⟨_, e⟩
 | .frame _, ⟨_, _, _, e, _⟩ => ⟨_, e⟩
theorem HOK.same {h h' : Heap} {a : Addr} (q : h'.get? a = h.get? a) : ∀ {c : HC}, HOK h a c → HOK h' a c
 | .raw _, e => q.trans e
 | .frame _, ⟨o, es, ep, e, r⟩ => ⟨o, es, ep, q.trans e, r⟩
structure St where
 ρ : String → Option AV
 σ : Addr → Option AObj
noncomputable def upd {α β : Type} [DecidableEq α] (f : α → Option β) (x : α) (v : β) : α → Option β := fun y => if y = x then some v else f y
noncomputable def era {α β : Type} [DecidableEq α] (f : α → Option β) (x : α) : α → Option β := fun y => if y = x then none else f y
theorem upd_same {α β : Type} [DecidableEq α] (f : α → Option β) (x : α) (v : β) : upd f x v x = some v := by simp [upd]
theorem upd_ne {α β : Type} [DecidableEq α] (f : α → Option β) {x y : α} (v : β) (h : y ≠ x) : upd f x v y = f y := by simp [upd, h]
theorem era_same {α β : Type} [DecidableEq α] (f : α → Option β) (x : α) : era f x x = none := by simp [era]
theorem era_ne {α β : Type} [DecidableEq α] (f : α → Option β) {x y : α} (h : y ≠ x) : era f x y = f y := by simp [era, h]
noncomputable def St.set (st : St) (x : String) (v : AV) : St := { st with ρ := upd st.ρ x v }
noncomputable def St.put (st : St) (a : Addr) (o : AObj) : St := { st with σ := upd st.σ a o }
noncomputable def St.del (st : St) (a : Addr) : St := { st with σ := era st.σ a }
noncomputable abbrev Hid := Addr → Option HC
structure Sat (p : PC) (L : Addr) (outer : List Env) (h₀ : Heap) (s : Shared) (st : St) (hid : Hid) : Prop where
 base : Sub p.base h₀
 sub : Sub h₀ s.heap
 loc : ∃ m, s.heap.Ns L m ∧ ∀ x av, st.ρ x = some av → ∃ v, m (Str.ofString x) = some v ∧ VR h₀ av v
 locF : h₀.get? L = none
 locS : st.σ L = none
 locH : hid L = none
 obj : ∀ a o, st.σ a = some o → OOK p h₀ s.heap a o ∧ h₀.get? a = none ∧ hid a = none
 hidd : ∀ a c, hid a = some c → HOK s.heap a c ∧ h₀.get? a = none
 out : ∀ e ∈ outer, e.scope.kind ≠ .module ∧ ∃ L' m, e.frame = some L' ∧ hid L' = some (.frame m)
 os : s.os = p.os
 gens : p.gp s.gens
noncomputable def mask (h : Heap) (P : Addr → Bool) : Heap := ⟨h.objs.mapIdx fun i o => if P i then { cls := .none, data := .freed } else o, h.life⟩
theorem mask_get (h : Heap) (P : Addr → Bool) (a : Addr) : (mask h P).get? a = if P a then none else h.get? a := by
 unfold mask Heap.get?
 simp only [Array.getElem?_mapIdx]
 cases e : h.objs[a]? with
 | none => simp
 | some o =>
   simp only [Option.map_some]
   by_cases q : P a = true
   · simp [q]
   · simp [q]
noncomputable def priv (L : Addr) (st : St) (hid : Hid) : Addr → Bool := fun a => a == L || (st.σ a).isSome || (hid a).isSome
theorem priv_false {L : Addr} {st : St} {hid : Hid} {a : Addr} : priv L st hid a = false ↔ a ≠ L ∧ st.σ a = none ∧ hid a = none := by
 unfold priv
 simp [Bool.or_eq_false_iff, and_assoc]
theorem priv_self (L : Addr) (st : St) (hid : Hid) : priv L st hid L = true := by simp [priv]
theorem priv_obj {L : Addr} {st : St} {hid : Hid} {a : Addr} {o : AObj} (e : st.σ a = some o) : priv L st hid a = true := by simp [priv, e]
theorem priv_hid {L : Addr} {st : St} {hid : Hid} {a : Addr} {c : HC} (e : hid a = some c) : priv L st hid a = true := by simp [priv, e]
section
variable {p : PC} {L : Addr} {outer : List Env} {h₀ : Heap} {s s' : Shared} {st : St} {hid : Hid}
theorem Sat.of_eq (S : Sat p L outer h₀ s st hid) (hh : s'.heap = s.heap) (ho : s'.os = s.os) (hg : s'.gens = s.gens) : Sat p L outer h₀ s' st hid :=
 ⟨S.base, hh ▸ S.sub, hh ▸ S.loc, S.locF, S.locS, S.locH, hh ▸ S.obj, hh ▸ S.hidd, S.out, ho.trans S.os, hg ▸ S.gens⟩
theorem Sat.notPriv (S : Sat p L outer h₀ s st hid) {b : Addr} {o : Obj} (e : h₀.get? b = some o) : priv L st hid b = false := by
 refine priv_false.mpr ⟨fun q => ?_, ?_, ?_⟩
 · rw [q, S.locF] at e; exact xns e
 · cases q : st.σ b with
   | none => rfl
   | some x => have := (S.obj b x q).2.1; rw [e] at this; exact xsn this
 · cases q : hid b with
   | none => rfl
   | some x => have := (S.hidd b x q).2; rw [e] at this; exact xsn this
theorem Sat.privLt (S : Sat p L outer h₀ s st hid) {b : Addr} (e : priv L st hid b = true) : b < s.heap.objs.size := by
 unfold priv at e
 simp only [Bool.or_eq_true, beq_iff_eq] at e
 rcases e with (rfl | e) | e
 · refine xEA S.loc fun m hn _ => ?_; exact hn.lt
 · exact xE (Option.isSome_iff_exists.mp e) fun o q => (xE ((S.obj b o q).1.there) fun ob h => (Heap.lt_size h))
 · exact xE (Option.isSome_iff_exists.mp e) fun o q => (xE ((S.hidd b o q).1.there) fun ob h => (Heap.lt_size h))
theorem Sat.refreeze (S : Sat p L outer h₀ s st hid) :
   Sub h₀ (mask s.heap (priv L st hid)) ∧ Sat p L outer (mask s.heap (priv L st hid)) s st hid := by
 have k : Sub h₀ (mask s.heap (priv L st hid)) := fun b o e => by
   rw [mask_get, S.notPriv e]; exact S.sub b o e
 refine ⟨k, ⟨S.base.trans k, fun b o e => ?_, ?_, ?_, S.locS, S.locH, fun a o e => ⟨(S.obj a o e).1.mono₀ k, ?_, (S.obj a o e).2.2⟩, fun a c e => ⟨(S.hidd a c e).1, ?_⟩, S.out, S.os, S.gens⟩⟩
 · rw [mask_get] at e
   split at e
   · exact xns e
   · exact e
 · exact xEA S.loc fun m hn hv => (⟨m, hn, fun x av e => let ⟨v, e1, e2⟩ := hv x av e; ⟨v, e1, e2.mono k⟩⟩)
 · rw [mask_get, priv_self]; rfl
 · rw [mask_get, priv_obj e]; rfl
 · rw [mask_get, priv_hid e]; rfl
theorem Sat.grow (S : Sat p L outer h₀ s st hid) (k : Sub s.heap s'.heap) (ho : s'.os = s.os) (hg : p.gp s'.gens) : Sat p L outer h₀ s' st hid := by
 have same : ∀ {a ob}, s.heap.get? a = some ob → s'.heap.get? a = s.heap.get? a := fun e => (k _ _ e).trans e.symm
 refine ⟨S.base, S.sub.trans k, ?_, S.locF, S.locS, S.locH, fun a o e => ⟨?_, (S.obj a o e).2⟩, fun a c e => ⟨?_, (S.hidd a c e).2⟩, S.out, ho.trans S.os, hg⟩
 · exact xEA S.loc fun m hn hv => ⟨m, hn.keeps k, hv⟩
 · refine xE ((S.obj a o e).1.there) fun ob q => ?_; exact (S.obj a o e).1.same (same q)
 · refine xE ((S.hidd a c e).1.there) fun ob q => ?_; exact (S.hidd a c e).1.same (same q)
theorem Sat.pushF (S : Sat p L outer h₀ s st hid) (o : Obj) (hf : o.isFreed = false) (hh : s'.heap = s.heap.push o) (ho : s'.os = s.os) (hg : s'.gens = s.gens) :
   ∃ h₁, Sub h₀ h₁ ∧ Sat p L outer h₁ s' st hid ∧ h₁.get? s.heap.objs.size = some o := by
 have S' := S.grow (s' := s') (hh ▸ Sub.push _ o) ho (hg ▸ S.gens)
 refine xA S'.refreeze fun k S'' => ⟨_, k, S'', ?_⟩
 rw [mask_get]
 have : priv L st hid s.heap.objs.size = false := by
   cases q : priv L st hid s.heap.objs.size with
   | false => rfl
   | true => exact absurd (S.privLt q) (Nat.lt_irrefl _)
 rw [this, hh]
 exact Heap.get?_push_size _ hf
theorem Sat.freshPriv (S : Sat p L outer h₀ s st hid) : priv L st hid s.heap.objs.size = false := by
 cases q : priv L st hid s.heap.objs.size with
 | false => rfl
 | true => exact absurd (S.privLt q) (Nat.lt_irrefl _)
theorem Sat.fresh₀ (S : Sat p L outer h₀ s st hid) : h₀.get? s.heap.objs.size = none := by
 cases q : h₀.get? s.heap.objs.size with
 | none => rfl
 | some o => exact absurd (Heap.lt_size (S.sub _ _ q)) (Nat.lt_irrefl _)
theorem Sat.pushO (S : Sat p L outer h₀ s st hid) (ao : AObj) {o : Obj} (hh : s'.heap = s.heap.push o) (ho : s'.os = s.os) (hg : s'.gens = s.gens) (hok : OOK p h₀ s'.heap s.heap.objs.size ao) :
   st.σ s.heap.objs.size = none ∧ Sat p L outer h₀ s' (st.put s.heap.objs.size ao) hid := by
 have S' := S.grow (s' := s') (hh ▸ Sub.push _ o) ho (hg ▸ S.gens)
 have np := priv_false.mp S.freshPriv
 refine ⟨np.2.1, ⟨S'.base, S'.sub, S'.loc, S'.locF, ?_, S'.locH, fun a x e => ?_, S'.hidd, S'.out, S'.os, S'.gens⟩⟩
 · show upd st.σ _ _ L = none
   rw [upd_ne _ _ (Ne.symm np.1)]; exact S.locS
 · by_cases q : a = s.heap.objs.size
   · subst q
     have e' : upd st.σ s.heap.objs.size ao s.heap.objs.size = some x := e
     rw [upd_same] at e'
     cases Option.some.inj e'
     exact ⟨hok, S.fresh₀, np.2.2⟩
   · have e' : upd st.σ s.heap.objs.size ao a = some x := e
     rw [upd_ne _ _ q] at e'
     exact S'.obj a x e'
theorem Sat.setO (S : Sat p L outer h₀ s st hid) {a : Addr} {ao ao' : AObj} (e : st.σ a = some ao) (hs : Heap.SameBut a s.heap s'.heap) (ho : s'.os = s.os) (hg : s'.gens = s.gens) (hok : OOK p h₀ s'.heap a ao') :
   Sat p L outer h₀ s' (st.put a ao') hid := by
 have ha := S.obj a ao e
 have nL : L ≠ a := fun q => by rw [← q, S.locS] at e; exact xns e
 refine ⟨S.base, fun b o q => (hs.2 b fun z => ?_).trans (S.sub b o q), ?_, S.locF, ?_, S.locH, fun b x q => ?_, fun b c q => ⟨(S.hidd b c q).1.same (hs.2 b fun z => ?_), (S.hidd b c q).2⟩, S.out, ho.trans S.os, hg ▸ S.gens⟩
 · rw [z, ha.2.1] at q; exact xns q
 · exact xEA S.loc fun m hn hv => ⟨m, hn.sameBut hs nL, hv⟩
 · show upd st.σ a ao' L = none
   rw [upd_ne _ _ nL]; exact S.locS
 · have q' : upd st.σ a ao' b = some x := q
   by_cases z : b = a
   · subst z
     rw [upd_same] at q'
     cases Option.some.inj q'
     exact ⟨hok, ha.2⟩
   · rw [upd_ne _ _ z] at q'
     exact ⟨(S.obj b x q').1.same (hs.2 b z), (S.obj b x q').2⟩
 · rw [z, ha.2.2] at q; exact xns q
theorem ofString_inj {x y : String} (h : Str.ofString x = Str.ofString y) : x = y := by
 rw [Str.ofString_eq_toList, Str.ofString_eq_toList] at h
 injection h with h
 have h' : x.toList.map Char.toNat = y.toList.map Char.toNat := by simpa using congrArg Array.toList h
 have inj : ∀ {a b : List Char}, a.map Char.toNat = b.map Char.toNat → a = b := by
   intro a
   induction a with
   | nil => intro b e; cases b with | nil => rfl | cons c r => simp at e
   | cons c r ih =>
     intro b e
     cases b with
     | nil => simp at e
     | cons d t =>
       simp only [List.map_cons, List.cons.injEq] at e
       rw [ih e.2, Char.ext (UInt32.toNat_inj.mp e.1)]
 have := inj h'
 exact String.toList_inj.mp this
theorem Sat.setL (S : Sat p L outer h₀ s st hid) {x : String} {av : AV} {v : Value} {m : Str → Option Value} (hv : VR h₀ av v) (hm : s.heap.Ns L m) (hm' : ∀ x av, st.ρ x = some av → ∃ v, m (Str.ofString x) = some v ∧ VR h₀ av v)
   (hn : s'.heap.Ns L (fun y => if y = Str.ofString x then some v else m y)) (hs : Heap.SameBut L s.heap s'.heap) (ho : s'.os = s.os) (hg : s'.gens = s.gens) :
   Sat p L outer h₀ s' (st.set x av) hid := by
 refine ⟨S.base, fun b o q => (hs.2 b fun z => ?_).trans (S.sub b o q), ⟨_, hn, fun y av' e => ?_⟩, S.locF, S.locS, S.locH, fun b o q => ⟨(S.obj b o q).1.same (hs.2 b fun z => ?_), (S.obj b o q).2⟩, fun b c q => ⟨(S.hidd b c q).1.same (hs.2 b fun z => ?_), (S.hidd b c q).2⟩, S.out, ho.trans S.os, hg ▸ S.gens⟩
 · rw [z, S.locF] at q; exact xns q
 · have e' : upd st.ρ x av y = some av' := e
   by_cases z : y = x
   · subst z
     rw [upd_same] at e'
     cases Option.some.inj e'
     exact ⟨v, by simp, hv⟩
   · rw [upd_ne _ _ z] at e'
     exact xEA (hm' y av' e') fun u e1 e2 => (⟨u, by rw [if_neg fun q => z (ofString_inj q)]; exact e1, e2⟩)
 · have q' : st.σ b = some o := q
   rw [z, S.locS] at q'; exact xns q'
 · rw [z, S.locH] at q; exact xns q
end
inductive Mode where
 | body | handler | comp
deriving DecidableEq
structure AOK (n : Nat) (b : Mode) (A : Around) (env : Env) (outer : List Env) : Prop where
 frames : A.frames = some (if b = .comp then outer else env :: outer)
 handled : b ≠ .handler → A.handled = none
 depth : A.depth + 20 * n ≤ 900
 units : A.units + 100 * n ≤ 9000
 kind : env.scope.kind = .function
 frame : b ≠ .comp → env.frame = some env.locals
 glob : env.globals = mainGlobals
 bi : env.builtins = builtinsNs
noncomputable def Unt (h₀ : Heap) (L : Addr) (st : St) (hid : Hid) (a : Addr) : Prop := h₀.get? a = none ∧ priv L st hid a = false
noncomputable def XOK (Y : Value → Prop) (h₀ : Heap) (L : Addr) (st : St) (hid : Hid) (h : Heap) (x cls : Value) (fresh : Prop) : Prop :=
 ∃ e oe vs, x = .ref e ∧ Unt h₀ L st hid e ∧ h.get? e = some oe ∧ oe.cls = cls ∧ oe.data = .fields vs ∧
   ((fresh ∧ vs[1]? = some .none) ∨ ∃ T oT ts y, vs[1]? = some (.ref T) ∧ T ≠ e ∧ Unt h₀ L st hid T ∧ h.get? T = some oT ∧ oT.data = .fields ts ∧ ts[3]? = some y ∧ Y y)
noncomputable abbrev XFree (L : Addr) : Value → Prop := fun y => y = .none ∨ y = rawInt L
section
variable {p : PC} {L : Addr} {outer : List Env} {h₀ : Heap} {s s' : Shared} {st : St} {hid : Hid}
theorem Sat.agree (S : Sat p L outer h₀ s st hid) (k : ∀ b o, s.heap.get? b = some o → ¬ Unt h₀ L st hid b → s'.heap.get? b = some o) (ho : s'.os = s.os) (hg : s'.gens = s.gens) : Sat p L outer h₀ s' st hid := by
 have k0 : ∀ b o, h₀.get? b = some o → s'.heap.get? b = some o := fun b o e => k b o (S.sub b o e) fun q => by rw [q.1] at e; exact xns e
 have kp : ∀ b o, s.heap.get? b = some o → priv L st hid b = true → s'.heap.get? b = s.heap.get? b := fun b o e q => (k b o e fun z => by rw [z.2] at q; exact xft q).trans e.symm
 refine ⟨S.base, k0, ?_, S.locF, S.locS, S.locH, fun a o e => ⟨?_, (S.obj a o e).2⟩, fun a c e => ⟨?_, (S.hidd a c e).2⟩, S.out, ho.trans S.os, hg ▸ S.gens⟩
 · refine xEA S.loc fun m zz1 hv => ?_; obtain ⟨o, es, ep, e, r⟩ := zz1
   exact ⟨m, ⟨o, es, ep, (kp L o e (priv_self ..)).trans e, r⟩, hv⟩
 · refine xE ((S.obj a o e).1.there) fun ob q => ?_; exact (S.obj a o e).1.same (kp a ob q (priv_obj e))
 · refine xE ((S.hidd a c e).1.there) fun ob q => ?_; exact (S.hidd a c e).1.same (kp a ob q (priv_hid e))
theorem Sat.frameAt (S : Sat p L outer h₀ s st hid) {env : Env} (hL : env.frame = some L) {b : Addr} (hb : b ∈ (env :: outer).filterMap (·.frame)) : b = L ∨ ∃ m, hid b = some (.frame m) := by
 refine xEA (List.mem_filterMap.mp hb) fun e he hf => ?_
 rcases List.mem_cons.mp he with rfl | he
 · exact .inl (Option.some.inj (hf.symm.trans hL))
 · exact xAEEA (S.out e he) fun zw L' m e1 e2 => (.inr ⟨m, by rw [← Option.some.inj (e1.symm.trans hf)]; exact e2⟩)
theorem ns_data {h h' : Heap} {a : Addr} {m : Str → Option Value} (hn : h.Ns a m) (k : ∀ o, h.get? a = some o → ∃ sl, h'.get? a = some { o with slots := sl }) : h'.Ns a m := by
 exact xEEEAA hn fun o es ep e hd r => (xE (k o e) fun sl e' => ⟨_, es, ep, e', hd, r⟩)
theorem Sat.slots (S : Sat p L outer h₀ s st hid) {env : Env} (hL : env.frame = some L) (k : Heap.SlotsOnly ((env :: outer).filterMap (·.frame)) s.heap s'.heap) (ho : s'.os = s.os) (hg : s'.gens = s.gens) : Sat p L outer h₀ s' st hid := by
 have nf : ∀ {b}, (b ∈ (env :: outer).filterMap (·.frame)) → (b = L ∨ ∃ m, hid b = some (.frame m)) := fun hb => S.frameAt hL hb
 refine ⟨S.base, fun b o e => (k.2.1 b fun hb => ?_).trans (S.sub b o e), ?_, S.locF, S.locS, S.locH, fun a o e => ⟨(S.obj a o e).1.same (k.2.1 a fun hb => ?_), (S.obj a o e).2⟩, fun a c e => ⟨?_, (S.hidd a c e).2⟩, S.out, ho.trans S.os, hg ▸ S.gens⟩
 · rcases nf hb with rfl | ⟨m, q⟩
   · rw [S.locF] at e; exact xns e
   · rw [(S.hidd b _ q).2] at e; exact xns e
 · exact xEA S.loc fun m hn hv => ⟨m, ns_data hn fun o e => k.2.2 _ _ e, hv⟩
 · rcases nf hb with rfl | ⟨m, q⟩
   · rw [S.locS] at e; exact xns e
   · rw [(S.obj a o e).2.2] at q; exact xns q
 · by_cases hb : a ∈ (env :: outer).filterMap (·.frame)
   · rcases nf hb with rfl | ⟨m, q⟩
     · rw [S.locH] at e; exact xns e
     · rw [q] at e; cases Option.some.inj e
       exact ns_data (S.hidd a _ q).1 fun o e => k.2.2 _ _ e
   · exact (S.hidd a c e).1.same (k.2.1 a hb)
theorem Sat.funFrames (S : Sat p L outer h₀ s st hid) {env : Env} (hL : env.frame = some L) (hk : env.scope.kind = .function) : s.heap.FunFrames h₀ (env :: outer) := by
 have nsd : ∀ {a m}, s.heap.Ns a m → ∃ o, s.heap.get? a = some o ∧ ∀ vs, o.data ≠ .fields vs := fun zy1 => xEEEAA zy1 fun o es ep e hd zw => ⟨o, e, fun vs q => by rw [hd] at q; cases q⟩
 have go : ∀ l : List Env, (∀ e ∈ l, e.scope.kind ≠ .module ∧ ∃ L' m, e.frame = some L' ∧ hid L' = some (.frame m)) → s.heap.FunFrames h₀ l := by
   intro l
   induction l with
   | nil => intro _; trivial
   | cons e r ih =>
     intro hh
     exact xAEEA (hh e (.head _)) fun h1 L' m h2 h3 => (xEA (nsd (S.hidd L' _ h3).1) fun o e1 e2 => ⟨h1, ⟨L', o, h2, (S.hidd L' _ h3).2, e1, e2⟩, ih fun e' he' => hh e' (.tail _ he')⟩)
 exact xEA S.loc fun m hn zw => (xEA (nsd hn) fun o e1 e2 => (⟨by rw [hk]; decide, ⟨L, o, hL, S.locF, e1, e2⟩, go outer S.out⟩))
end
section
variable {p : PC} {n : Nat} {b : Mode} {A : Around} {env : Env} {outer : List Env} {h₀ : Heap} {s : Shared} {st : St} {hid : Hid} {M : Model} {E : Value → Shared → Prop} {x cls : Value}
theorem unt_fresh {h₁ : Heap} (S : Sat p L outer h₀ s st hid) (hz : h₁.objs.size = s.heap.objs.size) : Unt h₀ L st hid h₁.objs.size := by
 rw [hz]; exact ⟨S.fresh₀, S.freshPriv⟩
theorem unt_frame {env : Env} {L : Addr} (S : Sat p L outer h₀ s st hid) (hL : env.frame = some L) {a : Addr} (u : Unt h₀ L st hid a) : a ∉ (env :: outer).filterMap (·.frame) := fun hb => by
 rcases S.frameAt hL hb with rfl | ⟨m, q⟩
 · have := u.2; rw [priv_self] at this; exact xtf this
 · have := u.2; rw [priv_hid q] at this; exact xtf this
theorem note_entry {e : Addr} {oe : Obj} {vs : Array Value} {head : Value} {hadNext : Bool} {Q : Unit → Shared → Prop} (hA : AOK n b A env outer) (hb : b ≠ .comp) (S : Sat p env.locals outer h₀ s st hid)
   (hu : Unt h₀ env.locals st hid e) (he : s.heap.get? e = some oe) (hc : oe.cls = cls) (hd : oe.data = .fields vs) (hz : 1 < vs.size)
   (h : ∀ h', Sat p env.locals outer h₀ { s with heap := h' } st hid → XOK (· = rawInt env.locals) h₀ env.locals st hid h' (.ref e) cls False → Q () { s with heap := h' }) :
   wpAny M A (do let a ← frameOf env; let pl ← entryPlaceOf env.locals hadNext; let b ← EntryCells.newEntry head a .none (rawInt env.locals) .none pl; setField (.ref e) 1 b) Q E s := by
 refine wpAny_bind (wpAny_frameOf_fun (by rw [hA.frames, if_neg hb]) (S.funFrames (hA.frame hb) hA.kind) (hA.frame hb) fun h₁ hs₁ => ?_)
 have S₁ : Sat p env.locals outer h₀ { s with heap := h₁ } st hid := S.slots (hA.frame hb) hs₁ rfl rfl
 refine wpAny_bind (wpAny_entryPlaceOf fun pl hpl => ?_)
 unfold EntryCells.newEntry newFields
 refine wpAny_bind (wpAny_newObj_type ?_ (hpl.sizeOk5 _ _ _ _ _))
 have he₁ : h₁.get? e = some oe := (hs₁.2.1 e (unt_frame S (hA.frame hb) hu)).trans he
 have he₂ := Heap.get?_push_of_some (h := h₁) { cls := .type "traceback", dict := none, data := .fields ([head, .ref env.locals, .none, rawInt env.locals, .none] ++ (if pl.isEmpty then List.replicate 6 Value.none else pl)).toArray } he₁
 refine wpAny_setField he₂ hd hz ?_
 have hTe : h₁.objs.size ≠ e := Nat.ne_of_gt (Heap.lt_size he₁)
 have hd₃ := Obj.data_mapFields hd (·.setIfInBounds 1 (Value.ref h₁.objs.size))
 have he₃ := Heap.get?_update_self (Obj.mapFields (·.setIfInBounds 1 (Value.ref h₁.objs.size))) he₂ (Obj.isFreed_of_fields hd₃)
 have hT₃ := (Heap.get?_update_other (h₁.push { cls := .type "traceback", dict := none, data := .fields ([head, .ref env.locals, .none, rawInt env.locals, .none] ++ (if pl.isEmpty then List.replicate 6 Value.none else pl)).toArray })
   (Obj.mapFields (·.setIfInBounds 1 (Value.ref h₁.objs.size))) (Ne.symm hTe)).trans (Heap.get?_push_size h₁ rfl)
 refine h _ ((S₁.agree fun a o q nu => ?_) rfl rfl) ⟨e, _, _, rfl, hu, he₃, (Obj.cls_mapFields _ _).trans hc, hd₃, .inr ⟨h₁.objs.size, _, _, rawInt env.locals, by simp [hz], hTe, unt_fresh S hs₁.1, hT₃, rfl, by rfl, rfl⟩⟩
 have hae : e ≠ a := fun z => nu (z ▸ hu)
 rw [Heap.get?_update_other _ _ hae]
 exact Heap.get?_push_of_some _ q
theorem note_X {Q : Unit → Shared → Prop} {F : Prop} (hA : AOK n b A env outer) (hb : b ≠ .comp) (S : Sat p env.locals outer h₀ s st hid) (hx : XOK (XFree env.locals) h₀ env.locals st hid s.heap x cls F)
   (h : ∀ h', Sat p env.locals outer h₀ { s with heap := h' } st hid → XOK (· = rawInt env.locals) h₀ env.locals st hid h' x cls False → Q () { s with heap := h' }) :
   wpAny M A (noteFrame x env) Q E s := by
 refine xEEEAAAAA hx fun e oe vs zz2 hu he hc hd hcase => ?_; subst zz2
 unfold noteFrame
 simp only [hA.frame hb]
 rcases hcase with ⟨_, h1⟩ | ⟨T, oT, ts, y, h1, hTe, huT, hT, hdT, h3, hy⟩
 · refine wpAny_bind (wpAny_field he hd h1 ?_)
   rw [if_neg (by decide)]
   exact note_entry (hadNext := _) hA hb S hu he hc hd (Array.getElem?_eq_some_iff.mp h1).1 h
 · refine wpAny_bind (wpAny_field he hd h1 ?_)
   rw [if_pos (show (Value.ref T != Value.none) = true from by rfl)]
   refine wpAny_bind (wpAny_field hT hdT h3 ?_)
   rcases hy with rfl | rfl
   · rw [if_neg (show ¬ ((Value.none == rawInt env.locals) = true) from by simp [rawInt])]
     refine wpAny_bind (wpAny_setField hT hdT (Array.getElem?_eq_some_iff.mp h3).1 ?_)
     have other : ∀ a, a ≠ T → (s.heap.update T (Obj.mapFields (·.setIfInBounds 3 Value.none))).get? a = s.heap.get? a := fun a ha => Heap.get?_update_other _ _ (Ne.symm ha)
     have S' : Sat p env.locals outer h₀ { s with heap := s.heap.update T (Obj.mapFields (·.setIfInBounds 3 Value.none)) } st hid :=
       S.agree (fun a o q nu => (other a fun z => nu (z ▸ huT)).trans q) rfl rfl
     exact note_entry (hadNext := _) hA hb S' hu ((other e (Ne.symm hTe)).trans he) hc hd (Array.getElem?_eq_some_iff.mp h1).1 h
   · rw [if_pos (show (rawInt env.locals == rawInt env.locals) = true from by simp)]
     exact wpAny_pure (h s.heap S ⟨e, oe, vs, rfl, hu, he, hc, hd, .inr ⟨T, oT, ts, _, h1, hTe, huT, hT, hdT, h3, rfl⟩⟩)
theorem flight_X {Q : Unit → Shared → Prop} {Y : Value → Prop} {fr : Option Addr} {F : Prop} (S : Sat p env.locals outer h₀ s st hid) (hx : XOK Y h₀ env.locals st hid s.heap x cls F)
   (h : ∀ h', Sat p env.locals outer h₀ { s with heap := h' } st hid → XOK (· = fr.elim .none fun f => rawInt f) h₀ env.locals st hid h' x cls F → Q () { s with heap := h' }) :
   wpAny M A (setFlight x fr) Q E s := by
 refine xEEEAAAAA hx fun e oe vs zz3 hu he hc hd hcase => ?_; subst zz3
 unfold setFlight
 rcases hcase with ⟨hF, h1⟩ | ⟨T, oT, ts, y, h1, hTe, huT, hT, hdT, h3, hy⟩
 · refine wpAny_bind (wpAny_field he hd h1 ?_)
   rw [if_neg (by decide)]
   exact wpAny_pure (h s.heap S ⟨e, oe, vs, rfl, hu, he, hc, hd, .inl ⟨hF, h1⟩⟩)
 · refine wpAny_bind (wpAny_field he hd h1 ?_)
   rw [if_pos (show (Value.ref T != Value.none) = true from by rfl)]
   have hz := (Array.getElem?_eq_some_iff.mp h3).1
   refine wpAny_setField hT hdT hz ?_
   have other : ∀ a, a ≠ T → (s.heap.update T (Obj.mapFields (·.setIfInBounds 3 (fr.elim .none fun f => rawInt f)))).get? a = s.heap.get? a := fun a ha => Heap.get?_update_other _ _ (Ne.symm ha)
   have hd₃ := Obj.data_mapFields hdT (·.setIfInBounds 3 (fr.elim Value.none fun f => rawInt f))
   refine h _ (S.agree (fun a o q nu => (other a fun z => nu (z ▸ huT)).trans q) rfl rfl)
     ⟨e, oe, vs, rfl, hu, (other e (Ne.symm hTe)).trans he, hc, hd, .inr ⟨T, _, _, _, h1, hTe, huT, Heap.get?_update_self _ hT (Obj.isFreed_of_fields hd₃), hd₃, by simp [hz], rfl⟩⟩
theorem XOK.weaken {Y Y' : Value → Prop} {h : Heap} {L : Addr} {F F' : Prop} (hx : XOK Y h₀ L st hid h x cls F) (k : ∀ y, Y y → Y' y) (kF : F → F') : XOK Y' h₀ L st hid h x cls F' := by
 refine xEEEAAAAA hx fun e oe vs zz4 hu he hc hd hcase => ?_; subst zz4
 exact ⟨e, oe, vs, rfl, hu, he, hc, hd, hcase.imp (fun z => ⟨kF z.1, z.2⟩) fun zy2 => xEEEEAAAAAA zy2 fun T oT ts y h1 hTe huT hT hdT h3 hy => ⟨T, oT, ts, y, h1, hTe, huT, hT, hdT, h3, k y hy⟩⟩
noncomputable def EP (p : PC) (L : Addr) (outer : List Env) (h₀ : Heap) (hid : Hid) (X : Value → St → Prop) : Value → Shared → Prop :=
 fun x s' => ∃ h₁ cls st', Sub h₀ h₁ ∧ Sat p L outer h₁ s' st' hid ∧ XOK (XFree L) h₁ L st' hid s'.heap x cls True ∧ X cls st'
theorem passes_EP {A₁ A₂ : Around} {b₁ : Mode} {X : Value → St → Prop} (hA : AOK n b₁ A₁ env outer) (hb : b₁ ≠ .comp) : PassesOwnAt M A₁ A₂ env (EP p env.locals outer h₀ hid X) := by
 intro x s' zz5; refine xEEEAAA zz5 fun h₁ cls st' k S hx hX => ?_
 unfold notedBy
 refine note_X hA hb S hx fun h' S' hx' => ?_
 unfold cameBackBy
 refine xEEEAAAAA (id hx') fun e oe vs hxe hu he hc hd hcase => ?_
 rcases hcase with ⟨hF, _⟩ | ⟨T, oT, ts, y, h1, hTe, huT, hT, hdT, h3, hy⟩
 · exact hF.elim
 · subst hxe
   refine wpAny_bind (wpAny_field he hd h1 ?_)
   simp only [show (Value.ref T == Value.none) = false from by rfl, Bool.false_eq_true, if_false]
   refine flight_X S' hx' fun h'' S'' hx'' => ⟨h₁, cls, st', k, S'', hx''.weaken (fun y hy => ?_) False.elim, hX⟩
   subst hy
   rw [hA.frame hb]
   exact .inr rfl
theorem passes_EP' {X : Value → St → Prop} (hA : AOK n b A env outer) (hb : b ≠ .comp) : PassesOwn M A env (EP p env.locals outer h₀ hid X) := passes_EP hA hb
theorem EP.mono {L : Addr} {X X' : Value → St → Prop} (k : Sub h₀ h₁) (hX : ∀ c st, X c st → X' c st) {s' : Shared} (h : EP p L outer h₁ hid X x s') : EP p L outer h₀ hid X' x s' :=
 let ⟨h₂, cls, st', k', S, hx, q⟩ := h
 ⟨h₂, cls, st', k.trans k', S, hx, hX _ _ q⟩
end
variable {p : PC} {n : Nat} {b : Mode} {env cenv : Env} {X : Value → St → Prop} {st : St} {Q : AV → St → Prop}
noncomputable def NP {α β : Type} (p : PC) (L : Addr) (outer : List Env) (h₀ : Heap) (hid : Hid) (R : Heap → β → α → Prop) (Q : β → St → Prop) : α → Shared → Prop :=
 fun v s' => ∃ h₁ y st', Sub h₀ h₁ ∧ Sat p L outer h₁ s' st' hid ∧ R h₁ y v ∧ Q y st'
theorem NP.elim {α β : Type} {p : PC} {L : Addr} {outer : List Env} {h₀ : Heap} {hid : Hid} {R : Heap → β → α → Prop} {Q : β → St → Prop} {v : α} {s : Shared} {C : Prop} (z : NP p L outer h₀ hid R Q v s)
   (k : ∀ h₁ y st', Sub h₀ h₁ → Sat p L outer h₁ s st' hid → R h₁ y v → Q y st' → C) : C := by
 exact xEEEAAA z fun h₁ y st' a b c d => (k h₁ y st' a b c d)
structure GW {α β : Type} (p : PC) (n : Nat) (b : Mode) (env : Env) (R : Heap → β → α → Prop) (t : Sem α) (Q : β → St → Prop) (X : Value → St → Prop) (st : St) : Prop where
 run : ∀ A outer h₀ s hid, AOK n b A env outer → Sat p env.locals outer h₀ s st hid →
   wpAny (model p.prog p.w) A t (NP p env.locals outer h₀ hid R Q) (EP p env.locals outer h₀ hid X) s
structure GF {α β γ δ : Type} (p : PC) (n : Nat) (b : Mode) (env : Env) (R : Heap → β → α → Prop) (y : β) (R' : Heap → δ → γ → Prop) (f : α → Sem γ) (Q : δ → St → Prop) (X : Value → St → Prop) (st : St) : Prop where
 run : ∀ A outer h₀ s hid v, AOK n b A env outer → Sat p env.locals outer h₀ s st hid → R h₀ y v →
   wpAny (model p.prog p.w) A (f v) (NP p env.locals outer h₀ hid R' Q) (EP p env.locals outer h₀ hid X) s
structure GV2 {γ δ : Type} (p : PC) (n : Nat) (b : Mode) (env : Env) (a c : AV) (R' : Heap → δ → γ → Prop) (f : Value → Value → Sem γ) (Q : δ → St → Prop) (X : Value → St → Prop) (st : St) : Prop where
 run : ∀ A outer h₀ s hid v u, AOK n b A env outer → Sat p env.locals outer h₀ s st hid → VR h₀ a v → VR h₀ c u →
   wpAny (model p.prog p.w) A (f v u) (NP p env.locals outer h₀ hid R' Q) (EP p env.locals outer h₀ hid X) s
noncomputable instance {α β : Type} {p : PC} {n : Nat} {b : Mode} {env : Env} {R : Heap → β → α → Prop} {t : Sem α} {Q : β → St → Prop} {X : Value → St → Prop} {st : St} : CoeFun (GW p n b env R t Q X st) (fun _ => ∀ A outer h₀ s hid, AOK n b A env outer → Sat p env.locals outer h₀ s st hid →
   wpAny (model p.prog p.w) A t (NP p env.locals outer h₀ hid R Q) (EP p env.locals outer h₀ hid X) s) := ⟨GW.run⟩
noncomputable instance {α β γ δ : Type} {p : PC} {n : Nat} {b : Mode} {env : Env} {R : Heap → β → α → Prop} {y : β} {R' : Heap → δ → γ → Prop} {f : α → Sem γ} {Q : δ → St → Prop} {X : Value → St → Prop} {st : St} : CoeFun (GF p n b env R y R' f Q X st) (fun _ => ∀ A outer h₀ s hid v, AOK n b A env outer → Sat p env.locals outer h₀ s st hid → R h₀ y v →
   wpAny (model p.prog p.w) A (f v) (NP p env.locals outer h₀ hid R' Q) (EP p env.locals outer h₀ hid X) s) := ⟨GF.run⟩
noncomputable instance {γ δ : Type} {p : PC} {n : Nat} {b : Mode} {env : Env} {a c : AV} {R' : Heap → δ → γ → Prop} {f : Value → Value → Sem γ} {Q : δ → St → Prop} {X : Value → St → Prop} {st : St} : CoeFun (GV2 p n b env a c R' f Q X st) (fun _ => ∀ A outer h₀ s hid v u, AOK n b A env outer → Sat p env.locals outer h₀ s st hid → VR h₀ a v → VR h₀ c u →
   wpAny (model p.prog p.w) A (f v u) (NP p env.locals outer h₀ hid R' Q) (EP p env.locals outer h₀ hid X) s) := ⟨GV2.run⟩
noncomputable abbrev BR : Heap → Bool → Bool → Prop := fun _ a b => a = b
noncomputable abbrev UR : Heap → Unit → Unit → Prop := fun _ _ _ => True
inductive AF where
 | next | brk | cont
 | ret (v : AV)
inductive FR (h : Heap) : AF → Flow → Prop
 | next : FR h .next .next
 | brk : FR h .brk .brk
 | cont : FR h .cont .cont
 | ret {a : AV} {v : Value} : VR h a v → FR h (.ret a) (.ret v)
section
variable {p : PC} {n : Nat} {b : Mode} {env : Env} {α β γ δ : Type} {R : Heap → β → α → Prop} {R' : Heap → δ → γ → Prop} {t : Sem α} {X : Value → St → Prop} {st : St}
 {A : Around} {outer : List Env} {h₀ h₁ : Heap} {s : Shared} {hid : Hid}
theorem GW.use {Q : β → St → Prop} {P : α → Shared → Prop} (H : GW p n b env R t Q X st) (hA : AOK n b A env outer) (S : Sat p env.locals outer h₁ s st hid) (k : Sub h₀ h₁)
   (kk : ∀ v s' h₂ y st', Sub h₀ h₂ → Sub h₁ h₂ → Sat p env.locals outer h₂ s' st' hid → R h₂ y v → Q y st' → P v s') :
   wpAny (model p.prog p.w) A t P (EP p env.locals outer h₀ hid X) s :=
 wpAny_mono (H A outer h₁ s hid hA S) (fun v s' z_ => z_.elim fun h₂ y st' k2 S2 r q => kk v s' h₂ y st' (k.trans k2) k2 S2 r q) fun _ _ e => EP.mono k (fun _ _ z => z) e
theorem GW.at {Q : β → St → Prop} (H : GW p n b env R t Q X st) (hA : AOK n b A env outer) (S : Sat p env.locals outer h₁ s st hid) (k : Sub h₀ h₁) :
   wpAny (model p.prog p.w) A t (NP p env.locals outer h₀ hid R Q) (EP p env.locals outer h₀ hid X) s :=
 H.use hA S k fun _ _ h₂ y st' k2 _ S2 r q => ⟨h₂, y, st', k2, S2, r, q⟩
theorem GF.at {y : β} {f : α → Sem γ} {Q : δ → St → Prop} {v : α} (H : GF p n b env R y R' f Q X st) (hA : AOK n b A env outer) (S : Sat p env.locals outer h₁ s st hid) (hv : R h₁ y v) (k : Sub h₀ h₁) :
   wpAny (model p.prog p.w) A (f v) (NP p env.locals outer h₀ hid R' Q) (EP p env.locals outer h₀ hid X) s :=
 wpAny_mono (H A outer h₁ s hid v hA S hv) (fun _ _ z_ => z_.elim fun h₂ y st' k2 S2 r q => ⟨h₂, y, st', k.trans k2, S2, r, q⟩) fun _ _ e => EP.mono k (fun _ _ z => z) e
theorem GV2.at {a c : AV} {f : Value → Value → Sem γ} {Q : δ → St → Prop} {v u : Value} (H : GV2 p n b env a c R' f Q X st) (hA : AOK n b A env outer) (S : Sat p env.locals outer h₁ s st hid) (hv : VR h₁ a v) (hu : VR h₁ c u) (k : Sub h₀ h₁) :
   wpAny (model p.prog p.w) A (f v u) (NP p env.locals outer h₀ hid R' Q) (EP p env.locals outer h₀ hid X) s :=
 wpAny_mono (H A outer h₁ s hid v u hA S hv hu) (fun _ _ z_ => z_.elim fun h₂ y st' k2 S2 r q => ⟨h₂, y, st', k.trans k2, S2, r, q⟩) fun _ _ e => EP.mono k (fun _ _ z => z) e
theorem GW.mono {Q Q' : β → St → Prop} {X' : Value → St → Prop} (H : GW p n b env R t Q X st) (hq : ∀ y st, Q y st → Q' y st) (hx : ∀ c st, X c st → X' c st) : GW p n b env R t Q' X' st :=
 GW.mk fun A outer h₀ s hid hA S => wpAny_mono (H A outer h₀ s hid hA S) (fun _ _ z_ => z_.elim fun h₂ y st' k2 S2 r q => ⟨h₂, y, st', k2, S2, r, hq _ _ q⟩) fun _ _ e => EP.mono (.refl _) hx e
theorem NP.mk {Q : β → St → Prop} {v : α} {y : β} (S : Sat p L outer h₁ s st hid) (k : Sub h₀ h₁) (r : R h₁ y v) (q : Q y st) : NP p L outer h₀ hid R Q v s := ⟨h₁, y, st, k, S, r, q⟩
end
section
noncomputable abbrev EW (p : PC) (n : Nat) (b : Mode) (env : Env) (e : Expr) (Q : AV → St → Prop) (X : Value → St → Prop) (st : St) : Prop := GW p n b env VR (eval e env) Q X st
noncomputable abbrev TW (p : PC) (n : Nat) (b : Mode) (env : Env) (e : Expr) (Q : Bool → St → Prop) (X : Value → St → Prop) (st : St) : Prop := GW p n b env BR (isTrue e env (eval e env)) Q X st
noncomputable abbrev SW (p : PC) (n : Nat) (b : Mode) (env : Env) (l : List Stmt) (Q : AF → St → Prop) (X : Value → St → Prop) (st : St) : Prop := GW p n b env FR (execs l env) Q X st
noncomputable abbrev XW (p : PC) (n : Nat) (b : Mode) (env : Env) (x : Stmt) (Q : AF → St → Prop) (X : Value → St → Prop) (st : St) : Prop := GW p n b env FR (exec x env) Q X st
theorem EW.int {i : Int} {k : Nat} {pos : Pos} (h : Q (.int i) st) : EW p n b env (.Constant (.int i) k pos) Q X st :=
 GW.mk fun _ _ _ _ _ _ S => wpAny_Constant_int (NP.mk (S.of_eq rfl rfl rfl) (.refl _) (.int ..) h)
theorem EW.str {x : Str} {k : Nat} {pos : Pos} (h : Q (.str x) st) : EW p n b env (.Constant (.str x) k pos) Q X st :=
 GW.mk fun _ _ _ _ _ _ S => Constant_str (NP.mk (S.of_eq rfl rfl rfl) (.refl _) (.str ..) h)
theorem EW.bool {c : Bool} {k : Nat} {pos : Pos} (h : Q (.bool c) st) : EW p n b env (.Constant (.bool c) k pos) Q X st :=
 GW.mk fun _ _ _ _ _ _ S => Constant_bool (NP.mk S (.refl _) (.bool ..) h)
theorem EW.noneC {k : Nat} {pos : Pos} (h : Q .none st) : EW p n b env (.Constant .none k pos) Q X st :=
 GW.mk fun _ _ _ _ _ _ S => Constant_none (NP.mk S (.refl _) .none h)
theorem EW.var {x : String} {pos : Pos} {v : AV} (hv : st.ρ x = some v) (h : Q v st)
   (hl : env.kindOf (Str.ofString x) = some .local := by rfl) (hd : (Str.ofString x == ("__debug__" : Str)) = false := by decide +kernel) : EW p n b env (.Name (Str.ofString x) pos) Q X st :=
 GW.mk fun _ _ _ _ _ hA S => by
   exact xEA S.loc fun m hn hm => (xEA (hm x v hv) fun u e1 e2 => (wpAny_Name (wpAny_loadName_local hA.kind hl hn e1 (NP.mk S (.refl _) e2 h)) hd))
theorem EW.glob {x : Str} {pos : Pos} {v : Value} {av : AV} (e : nsIn p.K mainGlobals x = some (some v)) (hv : VR p.base av v) (h : Q av st)
   (hx : env.kindOf x = some .globalImplicit := by rfl) (hd : (x == ("__debug__" : Str)) = false := by decide +kernel) : EW p n b env (.Name x pos) Q X st :=
 GW.mk fun _ _ _ _ _ hA S => Name_function_global hA.kind hx (loadGlobal_global (hA.glob ▸ p.hT.g.keeps (S.base.trans S.sub)) (mg_of p.hK p.hT.g e) (NP.mk S (.refl _) (hv.mono S.base) h)) hd
theorem EW.binop {l r : Expr} {op : Operator} {pos : Pos}
   (H : EW p n b env l (fun a st1 => EW p n b env r (fun c st2 => GV2 p n b env a c VR (binaryOp op) Q X st2) X st1) X st) : EW p n b env (.BinOp l op r pos) Q X st :=
 GW.mk fun _ _ _ _ _ hA S => wpAny_BinOp (H.use hA S (.refl _) fun _ _ _ _ _ k1 _ S1 hv H1 => H1.use hA S1 k1 fun _ _ _ _ _ k2 k12 S2 hu H2 => H2.at hA S2 (hv.mono k12) hu k2)
theorem EW.cmp {l r : Expr} {op : CmpOp} {pos : Pos}
   (H : EW p n b env l (fun a st1 => EW p n b env r (fun c st2 => GV2 p n b env a c VR (compareOp op) Q X st2) X st1) X st)
   (hm : behindInMarks op r = false := by with_unfolding_all rfl) : EW p n b env (.Compare l [op] [r] pos) Q X st :=
 GW.mk fun _ _ _ _ _ hA S => wpAny_Compare1 (H.use hA S (.refl _) fun _ _ _ _ _ k1 _ S1 hv H1 => H1.use hA S1 k1 fun _ _ _ _ _ k2 k12 S2 hu H2 => H2.at hA S2 (hv.mono k12) hu k2) hm
theorem EW.unop {x : Expr} {op : UnaryOp} {pos : Pos}
   (H : EW p n b env x (fun a st1 => GF p n b env VR a VR (unaryOp op) Q X st1) X st) : EW p n b env (.UnaryOp op x pos) Q X st :=
 GW.mk fun _ _ _ _ _ hA S => UnaryOp_ (H.use hA S (.refl _) fun _ _ _ _ _ k1 _ S1 hv H1 => H1.at hA S1 hv k1)
theorem EW.ifexp {t x y : Expr} {pos : Pos}
   (H : TW p n b env t (fun c st1 => if c then EW p n b env x Q X st1 else EW p n b env y Q X st1) X st) : EW p n b env (.IfExp t x y pos) Q X st :=
 GW.mk fun _ _ _ _ _ hA S => IfExp_ (H.use hA S (.refl _) fun c _ _ y _ k1 _ S1 hv H1 => by
   obtain rfl : y = c := hv
   cases y
   · exact GW.at H1 hA S1 k1
   · exact GW.at H1 hA S1 k1)
theorem TW.cmp {l r : Expr} {op : CmpOp} {pos : Pos} {Q : Bool → St → Prop}
   (H : EW p n b env l (fun a st1 => EW p n b env r (fun c st2 => GV2 p n b env a c VR (compareOp op) (fun d st3 => GF p n b env VR d BR truthy Q X st3) X st2) X st1) X st)
   (hm : behindInMarks op r = false := by with_unfolding_all rfl) : TW p n b env (.Compare l [op] [r] pos) Q X st :=
 GW.mk fun _ _ _ _ _ hA S => wpAny_isTrue_Compare1 (H.use hA S (.refl _) fun _ _ _ _ _ k1 _ S1 hv H1 => H1.use hA S1 k1 fun _ _ _ _ _ k2 k12 S2 hu H2 =>
   wpAny_mono (H2 _ _ _ _ _ _ _ hA S2 (hv.mono k12) hu) (fun _ _ z_ => z_.elim fun _ _ _ k3 S3 r3 H3 => H3.at hA S3 r3 (k2.trans k3)) fun _ _ e => EP.mono k2 (fun _ _ z => z) e) hm
theorem TW.and {x : Expr} {rest : List Expr} {pos : Pos} {Q : Bool → St → Prop} (H : TW p n b env x (fun c st1 => if c then TW p n b env (.BoolOp .And rest pos) Q X st1 else Q false st1) X st) : TW p n b env (.BoolOp .And (x :: rest) pos) Q X st :=
 GW.mk fun _ _ _ _ _ hA S => isTrue_and (H.use hA S (.refl _) fun c _ _ y _ k1 _ S1 hv H1 => by
   obtain rfl : y = c := hv
   cases y
   · exact NP.mk S1 k1 rfl H1
   · exact GW.at H1 hA S1 k1)
theorem TW.or {x : Expr} {rest : List Expr} {pos : Pos} {Q : Bool → St → Prop} (H : TW p n b env x (fun c st1 => if c then Q true st1 else TW p n b env (.BoolOp .Or rest pos) Q X st1) X st) : TW p n b env (.BoolOp .Or (x :: rest) pos) Q X st :=
 GW.mk fun _ _ _ _ _ hA S => isTrue_or (H.use hA S (.refl _) fun c _ _ y _ k1 _ S1 hv H1 => by
   obtain rfl : y = c := hv
   cases y
   · exact GW.at H1 hA S1 k1
   · exact NP.mk S1 k1 rfl H1)
theorem TW.and_nil {pos : Pos} {Q : Bool → St → Prop} (H : Q true st) : TW p n b env (.BoolOp .And [] pos) Q X st := GW.mk fun _ _ _ _ _ _ S => isTrue_and_nil (NP.mk S (.refl _) rfl H)
theorem TW.or_nil {pos : Pos} {Q : Bool → St → Prop} (H : Q false st) : TW p n b env (.BoolOp .Or [] pos) Q X st := GW.mk fun _ _ _ _ _ _ S => isTrue_or_nil (NP.mk S (.refl _) rfl H)
theorem TW.plain {e : Expr} {Q : Bool → St → Prop} (H : EW p n b env e (fun d st1 => GF p n b env VR d BR truthy Q X st1) X st)
   (he : isTrue e env (eval e env) = (do let v ← eval e env; standAt e.pos; holding [v] (truthy v)) := by rfl) : TW p n b env e Q X st :=
 GW.mk fun _ _ _ _ _ hA S => isTrue_plain (H.use hA S (.refl _) fun _ _ _ _ _ k1 _ S1 hv H1 => H1.at hA S1 hv k1) he
theorem truthy_bool {c : Bool} {Q : Bool → St → Prop} (h : Q c st) : GF p n b env VR (.bool c) BR truthy Q X st :=
 GF.mk fun _ _ _ _ _ _ _ S hv => by apply VR.onBool hv; exact wpAny_truthy_bool (NP.mk S (.refl _) rfl h)
theorem SW.nil {Q : AF → St → Prop} (h : Q .next st) : SW p n b env [] Q X st := GW.mk fun _ _ _ _ _ _ S => wpAny_execs_nil (NP.mk S (.refl _) .next h)
noncomputable def thenS (p : PC) (n : Nat) (b : Mode) (env : Env) (X : Value → St → Prop) (rest : List Stmt) (Q : AF → St → Prop) (f : AF) (st : St) : Prop := match f with
 | .next => SW p n b env rest Q X st
 | f => Q f st
noncomputable def loopS (N : St → Prop) (Q : AF → St → Prop) (f : AF) (st : St) : Prop := match f with
 | .next | .cont => N st
 | .brk => Q .next st
 | .ret w => Q (.ret w) st
theorem SW.cons {x : Stmt} {rest : List Stmt} {Q : AF → St → Prop} (H : XW p n b env x (thenS p n b env X rest Q) X st) : SW p n b env (x :: rest) Q X st :=
 GW.mk fun _ _ _ _ _ hA S => wpAny_execs_cons (H.use hA S (.refl _) fun f _ _ y _ k1 _ S1 hv H1 => by
   cases hv with
   | next => exact GW.at H1 hA S1 k1
   | brk => exact NP.mk S1 k1 .brk H1
   | cont => exact NP.mk S1 k1 .cont H1
   | ret hv => exact NP.mk S1 k1 (.ret hv) H1)
theorem storeW {x : String} {a : AV} {Q : Unit → St → Prop} (h : Q () (st.set x a)) (hl : env.kindOf (Str.ofString x) = some .local := by rfl) :
   GF p n b env VR a UR (fun v => storeName env (Str.ofString x) v) Q X st :=
 GF.mk fun _ _ _ _ _ _ hA S hv => by
   exact xEA S.loc fun m hn hm => (wpAny_storeName_local hl hn (fun h' hn' hs => (NP.mk (S.setL hv hn hm hn' hs rfl rfl) (.refl _) trivial h)) (by rw [hA.kind]; rfl))
theorem XW.assign {x : String} {e : Expr} {pos' pos : Pos} {Q : AF → St → Prop} (H : EW p n b env e (fun a st1 => Q .next (st1.set x a)) X st)
   (hl : env.kindOf (Str.ofString x) = some .local := by rfl) (hs : swapsWith e (some (.Name (Str.ofString x) pos')) pos.line env = pure false := by rfl) : XW p n b env (.Assign [.Name (Str.ofString x) pos'] e pos) Q X st :=
 GW.mk fun _ _ _ _ _ hA S => wpAny_Assign_Name (H.use hA S (.refl _) fun _ _ _ _ _ k1 _ S1 hv H1 =>
   wpAny_mono (GF.at (storeW (Q := fun _ st => Q .next st) H1 hl) hA S1 hv k1) (fun _ _ z_ => z_.elim fun h2 _ st2 k2 S2 _ q => NP.mk S2 k2 .next q) fun _ _ e => e) hs
theorem XW.aug {x : String} {e : Expr} {op : Operator} {pos' pos : Pos} {old : AV} {Q : AF → St → Prop} (ho : st.ρ x = some old)
   (H : EW p n b env e (fun a st1 => GV2 p n b env old a VR (inplaceOp op) (fun c st2 => Q .next (st2.set x c)) X st1) X st)
   (hl : env.kindOf (Str.ofString x) = some .local := by rfl) : XW p n b env (.AugAssign (.Name (Str.ofString x) pos') op e pos) Q X st :=
 GW.mk fun _ _ _ _ _ hA S => by
   exact xEA S.loc fun m hn hm => (xEA (hm x old ho) fun u e1 e2 => (wpAny_AugAssign_Name (wpAny_loadName_local hA.kind hl hn e1 (H.use hA S (.refl _) fun v s1 h1 a st1 k1 _ S1 hv H1 => (wpAny_mono (H1 _ _ _ _ _ _ _ hA S1 (e2.mono k1) hv) (fun w s2 z_ => z_.elim fun h2 c st2 k2 S2 hw H2 => (wpAny_mono (GF.at (storeW (Q := fun _ st => Q .next st) H2 hl) hA S2 hw (k1.trans k2)) (fun _ _ z_ => z_.elim fun h2 _ st2 k2 S2 _ q => NP.mk S2 k2 .next q) fun _ _ e => e)) fun _ _ e => EP.mono k1 (fun _ _ z => z) e)))))
theorem XW.iff {t : Expr} {x y : List Stmt} {pos : Pos} {Q : AF → St → Prop} (H : TW p n b env t (fun c st1 => if c then SW p n b env x Q X st1 else SW p n b env y Q X st1) X st) : XW p n b env (.If t x y pos) Q X st :=
 GW.mk fun _ _ _ _ _ hA S => wpAny_If (H.use hA S (.refl _) fun c _ _ y _ k1 _ S1 hv H1 => by
   obtain rfl : y = c := hv
   cases y
   · exact GW.at H1 hA S1 k1
   · exact GW.at H1 hA S1 k1)
theorem XW.ret {e : Expr} {pos : Pos} {Q : AF → St → Prop} (H : EW p n b env e (fun a st1 => Q (.ret a) st1) X st) : XW p n b env (.Return (some e) pos) Q X st :=
 GW.mk fun _ _ _ _ _ hA S => wpAny_Return_some (H.use hA S (.refl _) fun _ _ _ _ _ k1 _ S1 hv H1 => NP.mk S1 k1 (.ret hv) H1)
theorem XW.brk {pos : Pos} {Q : AF → St → Prop} (h : Q .brk st) : XW p n b env (.Break pos) Q X st := GW.mk fun _ _ _ _ _ _ S => by
 rw [arm_exec_Break]; exact wpAny_bind (wpAny_standAt (wpAny_pure (NP.mk S (.refl _) .brk h)))
theorem XW.cont {pos : Pos} {Q : AF → St → Prop} (h : Q .cont st) : XW p n b env (.Continue pos) Q X st := GW.mk fun _ _ _ _ _ _ S => by
 rw [arm_exec_Continue]; exact wpAny_bind (wpAny_standAt (wpAny_pure (NP.mk S (.refl _) .cont h)))
theorem XW.expr {e : Expr} {pos : Pos} {Q : AF → St → Prop} (H : EW p n b env e (fun _ st1 => Q .next st1) X st) (hi : interactive env = false := by rfl) (hs : swapsWith e none pos.line env = pure false := by rfl) : XW p n b env (.Expr e pos) Q X st :=
 GW.mk fun _ _ _ _ _ hA S => wpAny_Expr_any (H.use hA S (.refl _) fun _ _ _ _ _ k1 _ S1 _ H1 => NP.mk S1 k1 .next H1) hi hs
end
section
theorem sizeLine_val : sizeLine = 16777216 := by decide
noncomputable abbrev LW (p : PC) (n : Nat) (b : Mode) (env : Env) (pos : Pos) (l : List Expr) (Q : List AV → St → Prop) (X : Value → St → Prop) (st : St) : Prop := GW p n b env VRs (spliced (backTo pos (starEach l env))) Q X st
theorem LW.nil {pos : Pos} {Q : List AV → St → Prop} (h : Q [] st) : LW p n b env pos [] Q X st := GW.mk fun _ _ _ _ _ _ S => spliced_nil (NP.mk S (.refl _) .nil h)
theorem LW.cons {pos : Pos} {e : Expr} {l : List Expr} {Q : List AV → St → Prop} (H : EW p n b env e (fun a st1 => LW p n b env pos l (fun r st2 => Q (a :: r) st2) X st1) X st)
   (hs : backTo pos (starEach (e :: l) env) = (false, eval e env) :: backTo pos (starEach l env) := by rfl) : LW p n b env pos (e :: l) Q X st :=
 GW.mk fun _ _ _ _ _ hA S => by
   rw [hs]
   exact spliced_cons (H.use hA S (.refl _) fun _ _ _ _ _ k1 _ S1 hv H1 => H1.use hA S1 k1 fun _ _ _ _ _ k2 k12 S2 hu q => NP.mk S2 k2 (.cons (hv.mono k12) hu) q)
theorem newTupleW {as : List AV} (h : Q (.tup as) st) (hz : as.length ≤ 16777216 := by rfl) : GF p n b env VRs as VR newTuple Q X st :=
 GF.mk fun _ _ _ s _ vs _ S hv => by
   unfold newTuple
   exact wpAny_newObj_type (xEAA (S.pushF (s' := { s with heap := s.heap.push (tupObj vs 0) }) (tupObj vs 0) rfl rfl rfl rfl) fun h₁ k S' e => (NP.mk S' k (.tup e (hv.mono k)) h)) (by show vs.toArray.size ≤ sizeLine; rw [List.size_toArray, hv.length, sizeLine_val]; exact hz)
theorem newListW {as : List AV} (h : Q (.lst as) st) (hz : as.length ≤ 16777216 := by rfl) : GF p n b env VRs as VR newList Q X st :=
 GF.mk fun _ _ _ s _ vs _ S hv => by
   unfold newList
   exact wpAny_newObj_type (xEAA (S.pushF (s' := { s with heap := s.heap.push (lstObj vs 0) }) (lstObj vs 0) rfl rfl rfl rfl) fun h₁ k S' e => (NP.mk S' k (.lst e (hv.mono k)) h)) (by show vs.toArray.size ≤ sizeLine; rw [List.size_toArray, hv.length, sizeLine_val]; exact hz)
theorem newListM {as : List AV} (h : ∀ a, st.σ a = none → Q (.ref a) (st.put a (.list as))) (hz : as.length ≤ 16777216 := by rfl) : GF p n b env VRs as VR newList Q X st :=
 GF.mk fun _ _ _ s _ vs _ S hv => by
   unfold newList
   exact wpAny_newObj_type (xA (S.pushO (s' := { s with heap := s.heap.push (lstObj vs 0) }) (.list as) rfl rfl rfl ⟨vs, 0, Heap.get?_push_size _ rfl, hv⟩) fun f S' => (NP.mk S' (.refl _) (.ref _) (h _ f))) (by show vs.toArray.size ≤ sizeLine; rw [List.size_toArray, hv.length, sizeLine_val]; exact hz)
theorem EW.tup {l : List Expr} {k : Nat} {pos : Pos} (H : LW p n b env pos l (fun as st1 => Q (.tup as) st1 ∧ as.length ≤ 16777216) X st) : EW p n b env (.Tuple l k pos) Q X st :=
 GW.mk fun _ _ _ _ _ hA S => Tuple_ (H.use hA S (.refl _) fun _ _ _ _ _ k1 _ S1 hv q => GF.at (newTupleW q.1 q.2) hA S1 hv k1)
theorem EW.list {l : List Expr} {pos : Pos} (H : LW p n b env pos l (fun as st1 => Q (.lst as) st1 ∧ as.length ≤ 16777216) X st) : EW p n b env (.List l pos) Q X st :=
 GW.mk fun _ _ _ _ _ hA S => List_ (H.use hA S (.refl _) fun _ _ _ _ _ k1 _ S1 hv q => GF.at (newListW q.1 q.2) hA S1 hv k1)
theorem EW.listM {l : List Expr} {pos : Pos} (H : LW p n b env pos l (fun as st1 => (∀ a, st1.σ a = none → Q (.ref a) (st1.put a (.list as))) ∧ as.length ≤ 16777216) X st) : EW p n b env (.List l pos) Q X st :=
 GW.mk fun _ _ _ _ _ hA S => List_ (H.use hA S (.refl _) fun _ _ _ _ _ k1 _ S1 hv q => GF.at (newListM q.1 q.2) hA S1 hv k1)
noncomputable def IsL (σ : Addr → Option AObj) (a : AV) (l : List AV) : Prop := a = .lst l ∨ ∃ x, a = .ref x ∧ σ x = some (.list l)
theorem IsL.at {L : Addr} {outer : List Env} {h₀ : Heap} {s : Shared} {hid : Hid} {a : AV} {l : List AV} {v : Value} (h : IsL st.σ a l) (S : Sat p L outer h₀ s st hid) (hv : VR h₀ a v) :
   ∃ x vs k, v = .ref x ∧ s.heap.get? x = some (lstObj vs k) ∧ VRs h₀ l vs := by
 rcases h with rfl | ⟨x, rfl, e⟩
 · apply VR.onLst hv; intro za zvs zn e r; exact ⟨_, _, _, rfl, S.sub _ _ e, r⟩
 · apply VR.onRef hv
   exact xEEA ((S.obj _ _ e).1) fun vs k e1 r => ⟨_, vs, k, rfl, e1, r⟩
theorem lst_is {h : Heap} {x : Addr} {vs : List Value} {k : Nat} (e : h.get? x = some (lstObj vs k)) : h.IsList x vs.toArray := ⟨_, e, rfl, k, rfl⟩
theorem tup_is {h : Heap} {x : Addr} {vs : List Value} {k : Nat} (e : h.get? x = some (tupObj vs k)) : IsTup h x vs.toArray := ⟨_, e, rfl, k, rfl⟩
noncomputable def isSlice : Expr → Bool
 | .Slice .. => true
 | _ => false
theorem subscripted_plain {slice : Expr} {o i : Value} (h : isSlice slice = false) : subscripted slice false o i = operate [o, i] (getItem o i) := by
 unfold subscripted
 cases slice <;> first | rfl | exact xtf h
theorem EW.sub {value slice : Expr} {pos : Pos} (H : EW p n b env value (fun a st1 => EW p n b env slice (fun c st2 => GV2 p n b env a c VR (subscriptTail value slice) Q X st2) X st1) X st) : EW p n b env (.Subscript value slice pos) Q X st :=
 GW.mk fun _ _ _ _ _ hA S => Subscript_ (H.use hA S (.refl _) fun _ _ _ _ _ k1 _ S1 hv H1 => H1.use hA S1 k1 fun _ _ _ _ _ k2 k12 S2 hu H2 => H2.at hA S2 (hv.mono k12) hu k2)
theorem idx_list {value slice : Expr} {a x : AV} {l : List AV} {i : Int} (hl : IsL st.σ a l) (h0 : 0 ≤ i) (hx : l[i.toNat]? = some x) (h : Q x st) (hs : isSlice slice = false := by rfl) (hi : i < 2 ^ 63 := by omega) :
   GV2 p n b env a (.int i) VR (subscriptTail value slice) Q X st :=
 GV2.mk fun _ _ _ _ _ _ _ _ S hv hu => by
   apply VR.onInt hu; intro zt
   refine xEEEAA (hl.at S hv) fun y vs k zz1 e r => ?_; subst zz1
   exact xEA (r.get hx) fun v e1 e2 => (tail_any (lst_is e).typeIs slot_list_getitem.lookup (wpAny_getItem_list (lst_is e) h0 hi (by simpa using e1) (NP.mk S (.refl _) e2 h)) (subscripted_plain hs))
inductive PartA : AV → Option Int → Prop
 | none : PartA .none none
 | int (i : Int) : PartA (.int i) (some i)
theorem PartA.is {h : Heap} {a : AV} {o : Option Int} {v : Value} (x : PartA a o) (hv : VR h a v) : IsPart v o := by
 cases x <;> cases hv <;> constructor
noncomputable abbrev OW (p : PC) (n : Nat) (b : Mode) (env : Env) (o : Option Expr) (Q : AV → St → Prop) (X : Value → St → Prop) (st : St) : Prop := GW p n b env VR (valueOrNone (evalOpt o env)) Q X st
theorem OW.no (h : Q .none st) : OW p n b env none Q X st := GW.mk fun _ _ _ _ _ _ S => wpAny_pure (NP.mk S (.refl _) .none h)
theorem OW.yes {e : Expr} (h : EW p n b env e Q X st) : OW p n b env (some e) Q X st := h
noncomputable def CutW (p : PC) (n : Nat) (b : Mode) (env : Env) (a c d : AV) (Q : AV → St → Prop) (X : Value → St → Prop) (st : St) : Prop :=
 ∀ A outer h₀ s hid v u w (value slice : Expr), AOK n b A env outer → Sat p env.locals outer h₀ s st hid → VR h₀ a v → VR h₀ c u → VR h₀ d w →
   (∀ o i : Value, subscripted slice false o i = operate [i, o] (getItem o i)) →
   wpAny (model p.prog p.w) A (subscriptTail value slice v (.ref s.heap.objs.size)) (NP p env.locals outer h₀ hid VR Q) (EP p env.locals outer h₀ hid X) { s with heap := s.heap.push { cls := .type "slice", data := .fields #[u, w, .none] } }
theorem EW.cut {value : Expr} {lo hi : Option Expr} {sp pos : Pos}
   (H : EW p n b env value (fun a st1 => OW p n b env lo (fun c st2 => OW p n b env hi (fun d st3 => CutW p n b env a c d Q X st3) X st2) X st1) X st) : EW p n b env (.Subscript value (.Slice lo hi none sp) pos) Q X st :=
 GW.mk fun _ _ _ _ _ hA S => Subscript_ (H.use hA S (.refl _) fun v s1 h1 a st1 k1 _ S1 hv H1 => by
   rw [arm_eval_Slice]
   refine wpAny_bind (H1.use hA S1 k1 fun u s2 h2 c st2 k2 k12 S2 hu H2 => (wpAny_bind (wpAny_holding (H2.use hA S2 k2 fun w s3 h3 d st3 k3 k23 S3 hw H3 => (wpAny_bind (wpAny_holding (wpAny_pure (a := Value.none) ?_)))))))
   unfold newFields
   refine wpAny_newObj_type ?_ (by show (3 : Nat) ≤ sizeLine + 2; decide)
   exact wpAny_mono (H3 _ _ _ _ _ _ _ _ value _ hA S3 ((hv.mono k12).mono k23) (hu.mono k23) hw fun _ _ => rfl)
     (fun _ _ z_ => z_.elim fun h4 y st4 k4 S4 r q => ⟨h4, y, st4, k3.trans k4, S4, r, q⟩) fun _ _ e => EP.mono k3 (fun _ _ z => z) e)
theorem pick_from {vs : List Value} {x : Int} (h : 0 ≤ x) : slicePick vs.toArray (some x) none none = (vs.drop x.toNat).toArray := by
 rw [kms_pick_eq]
 unfold kms_pick
 simp only [kms_lo, kms_hi, if_neg (Int.not_lt.mpr h), kmk_drop_min]
 rw [List.take_of_length_le (by rw [List.length_drop]; exact Nat.sub_le_sub_left (Nat.min_le_left ..) _)]
theorem pick_upto {vs : List Value} {y : Int} (h : 0 ≤ y) : slicePick vs.toArray none (some y) none = (vs.take y.toNat).toArray := by
 rw [kms_pick_eq]
 unfold kms_pick
 simp only [kms_lo, kms_hi, if_neg (Int.not_lt.mpr h), List.drop_zero, Nat.sub_zero, kmk_take_min]
theorem pick_run {vs : List Value} {x y : Int} (h : 0 ≤ x) (h2 : 0 ≤ y) : slicePick vs.toArray (some x) (some y) none = ((vs.drop x.toNat).take (y.toNat - x.toNat)).toArray := by
 rw [kms_pick_eq]
 unfold kms_pick
 simp only [kms_lo, kms_hi, if_neg (Int.not_lt.mpr h), if_neg (Int.not_lt.mpr h2), kmk_drop_min]
 congr 1
 rw [List.take_eq_take_iff, List.length_drop, Nat.sub_min_sub_right]
 rcases Nat.le_total x.toNat vs.length with q | q
 · rw [Nat.min_eq_left q, Nat.sub_min_sub_right, Nat.min_assoc, Nat.min_self]
 · rw [Nat.sub_eq_zero_of_le q, Nat.min_zero, Nat.sub_eq_zero_of_le (Nat.le_trans (Nat.min_le_right ..) q)]
theorem cut_listG {a c d : AV} {lo hi : Option Int} {l l' : List AV} (hl : IsL st.σ a l) (pc : PartA c lo) (pd : PartA d hi)
   (hp : ∀ {h vs}, VRs h l vs → ∃ ws, slicePick vs.toArray lo hi none = ws.toArray ∧ VRs h l' ws) (h : Q (.lst l') st) (hz : l.length ≤ 16777216) : CutW p n b env a c d Q X st :=
 fun A outer h₀ s hid v u w value slice hA S hv hu hw hsub => by
   refine xEEEAA (hl.at S hv) fun y vs k zz2 e r => ?_; subst zz2
   refine xEA (hp r) fun ws e1 r' => ?_
   have hl' := (lst_is e).push { cls := .type "slice", data := .fields #[u, w, .none] }
   refine tail_any (Heap.IsList.typeIs (s := { s with heap := s.heap.push { cls := .type "slice", data := .fields #[u, w, .none] } }) hl') list_getitem_lookup
     (wpAny_getItem_list_slice hl' (Heap.IsSliceOf.new ..) (pc.is hu) (pd.is hw) .none (by decide) ?_ (by rw [List.size_toArray, r.length, sizeLine_val]; exact hz)) (hsub _ _)
   have S1 := S.grow (s' := { s with heap := s.heap.push { cls := .type "slice", data := .fields #[u, w, .none] } }) (Sub.push _ _) rfl S.gens
   rw [e1]
   exact xEAA (S1.pushF (s' := { s with heap := (s.heap.push { cls := .type "slice", data := .fields #[u, w, .none] }).push (lstObj ws 0) }) (lstObj ws 0) rfl rfl rfl rfl) fun h₁ k1 S2 e2 => (NP.mk S2 k1 (.lst e2 (r'.mono k1)) h)
theorem cut_from {a : AV} {l : List AV} {x : Int} (hl : IsL st.σ a l) (h : Q (.lst (l.drop x.toNat)) st) (hz : l.length ≤ 16777216) (hx : 0 ≤ x := by omega) : CutW p n b env a (.int x) .none Q X st :=
 cut_listG hl (.int x) .none (fun r => ⟨_, pick_from hx, r.drop _⟩) h hz
theorem cut_upto {a : AV} {l : List AV} {y : Int} (hl : IsL st.σ a l) (h : Q (.lst (l.take y.toNat)) st) (hz : l.length ≤ 16777216) (hy : 0 ≤ y := by omega) : CutW p n b env a .none (.int y) Q X st :=
 cut_listG hl .none (.int y) (fun r => ⟨_, pick_upto hy, r.take _⟩) h hz
theorem cut_run {a : AV} {l : List AV} {x y : Int} (hl : IsL st.σ a l) (h : Q (.lst ((l.drop x.toNat).take (y.toNat - x.toNat))) st) (hz : l.length ≤ 16777216) (hx : 0 ≤ x := by omega) (hy : 0 ≤ y := by omega) : CutW p n b env a (.int x) (.int y) Q X st :=
 cut_listG hl (.int x) (.int y) (fun r => ⟨_, pick_run hx hy, (r.drop _).take _⟩) h hz
theorem cut_str {x : Str} {c d : AV} {lo hi : Option Int} (pc : PartA c lo) (pd : PartA d hi) (h : Q (.str (Txt.slice x lo hi)) st) (hz : x.length ≤ 16777216) : CutW p n b env (.str x) c d Q X st :=
 fun A outer h₀ s hid v u w value slice hA S hv hu hw hsub => by
   apply VR.onStr hv; intro t
   have fin : ∀ h' t' k, Sub s.heap h' → NP p env.locals outer h₀ hid VR Q (.str (Txt.slice x lo hi) t') { s with heap := h', toks := k } :=
     fun h' t' k kk => NP.mk (S.grow (s' := { s with heap := h', toks := k }) kk rfl S.gens) (.refl _) (.str ..) h
   have kp : KeptH (Sub s.heap) := fun h' ob q => q.trans (Sub.push _ _)
   have hz' : x.length ≤ sizeLine := by rw [sizeLine_val]; exact hz
   have go : ItemOn (model p.prog p.w) A (EP p env.locals outer h₀ hid X) (.str x t) (.ref s.heap.objs.size) (NP p env.locals outer h₀ hid VR Q) { s with heap := s.heap.push { cls := .type "slice", data := .fields #[u, w, .none] } } := by
     cases pc <;> cases pd <;> cases hu <;> cases hw
     · exact SBH.sliceItem_nn kp (Sub.refl _) fin hz'
     · exact SBH.sliceItem_ns kp (Sub.refl _) fin hz'
     · exact SBH.sliceItem_sn kp (Sub.refl _) fin hz'
     · exact SBH.sliceItem_ss kp (Sub.refl _) fin hz'
   exact xEEAA go fun T id hl hT hg => (tail_any hT hl hg (hsub _ _))
end
noncomputable def mkEnv (scope : Scope) (L f : Addr) (q : Str) (cd : Value) : Env :=
 { scope := scope, locals := L, globals := mainGlobals, cells := [], qual := q, func := some f, code := cd, frame := some L, builtins := builtinsNs }
structure FnOK (p : PC) (f : Addr) (params : Arguments) (body : List Stmt) (scope : Scope) (dV : Value) (fo : Obj) (fd : FuncData) : Prop where
 look : p.K.lookup f = some fo
 data : fo.data = .func fd
 params : fd.params = params
 body : fd.body = .stmts body
 scope : fd.scope = scope
 glob : fd.globals = mainGlobals
 bi : fd.builtins = builtinsNs
 clos : fd.closure = []
 dflt : fd.defaults = dV
 kwd : fd.kwdefaults = .none
 code : codeIn p.K fd.code fd.qualname = true
noncomputable def retOf : AF → AV
 | .ret v => v
 | _ => .none
noncomputable def BindA (p : PC) (fd : FuncData) (as : List AV) (bs : List (String × AV)) : Prop :=
 ∀ A L outer h₀ s st hid vs E (Q : List (Str × Value) → Shared → Prop), Sat p L outer h₀ s st hid → VRs h₀ as vs →
   (∀ h₁ s₁ ws, Sub h₀ h₁ → Sat p L outer h₁ s₁ st hid → VRs h₁ (bs.map (·.2)) ws → Q ((bs.map fun x => Str.ofString x.1).zip ws) s₁) →
   wpAny (model p.prog p.w) A (bindArgs fd ⟨vs, []⟩) Q E s
theorem BindA.plain {p : PC} {fd : FuncData} {as : List AV} {bs : List (String × AV)} (hb : bs.map (·.2) = as) (h : ∀ vs, vs.length = as.length → bindArgs fd ⟨vs, []⟩ = pure ((bs.map fun x => Str.ofString x.1).zip vs)) : BindA p fd as bs :=
 fun _ _ _ h₀ s _ _ vs _ _ S hv k => by
   rw [h vs hv.length]
   exact wpAny_pure (k h₀ s vs (.refl _) S (hb ▸ hv))
theorem lookup_zip_rev {h : Heap} {bs : List (String × AV)} {ws : List Value} (hw : VRs h (bs.map (·.2)) ws) {x : String} {av : AV} (e : bs.reverse.lookup x = some av) :
   ∃ v, ((bs.map fun x => Str.ofString x.1).zip ws).reverse.lookup (Str.ofString x) = some v ∧ VR h av v := by
 have key : ∀ (bs : List (String × AV)) (ws : List Value), VRs h (bs.map (·.2)) ws → ∀ (acc : List (String × AV)) (acc' : List (Str × Value)),
     (∀ x av, acc.lookup x = some av → ∃ v, acc'.lookup (Str.ofString x) = some v ∧ VR h av v) → (∀ x, acc.lookup x = none → acc'.lookup (Str.ofString x) = none) →
     ∀ x av, (bs.reverse ++ acc).lookup x = some av → ∃ v, (((bs.map fun x => Str.ofString x.1).zip ws).reverse ++ acc').lookup (Str.ofString x) = some v ∧ VR h av v := by
   intro bs
   induction bs with
   | nil => intro ws hw acc acc' h1 _ x av e; cases hw; simpa using h1 x av (by simpa using e)
   | cons c r ih =>
     intro ws hw acc acc' h1 h2 x av e
     cases hw with | cons hv hr =>
     rename_i v vs
     have := ih vs hr ((c.1, c.2) :: acc) ((Str.ofString c.1, v) :: acc') ?_ ?_ x av (by simpa using e)
     · simpa using this
     · intro y ay ey
       rw [List.lookup_cons] at ey
       by_cases q : (y == c.1) = true
       · rw [q] at ey
         cases Option.some.inj ey
         rw [List.lookup_cons]
         have : (Str.ofString y == Str.ofString c.1) = true := by rw [beq_iff_eq.mp q]; exact beq_self_eq_true _
         rw [this]
         exact ⟨v, rfl, hv⟩
       · have q' : (y == c.1) = false := by simpa using q
         rw [q'] at ey
         rw [List.lookup_cons]
         have : (Str.ofString y == Str.ofString c.1) = false := beq_eq_false_iff_ne.mpr fun z => (beq_eq_false_iff_ne.mp q') (ofString_inj z)
         rw [this]
         exact h1 y ay ey
     · intro y ey
       rw [List.lookup_cons] at ey
       by_cases q : (y == c.1) = true
       · rw [q] at ey; exact xsn ey
       · have q' : (y == c.1) = false := by simpa using q
         rw [q'] at ey
         rw [List.lookup_cons]
         have : (Str.ofString y == Str.ofString c.1) = false := beq_eq_false_iff_ne.mpr fun z => (beq_eq_false_iff_ne.mp q') (ofString_inj z)
         rw [this]
         exact h2 y ey
 have := key bs ws hw [] [] (fun _ _ e => by exact xns e) (fun _ _ => rfl) x av (by simpa using e)
 simpa using this
section
variable {p : PC} {L L' : Addr} {outer outer' : List Env} {h₀ h₁ : Heap} {s s' : Shared} {st st' : St} {hid : Hid} {m : Str → Option Value}
theorem Sat.enter (S : Sat p L outer h₀ s st hid) (hm : s.heap.Ns L m) {ρ' : String → Option AV} {m' : Str → Option Value} (hL' : L' = s.heap.objs.size) (hn : s'.heap.Ns L' m') (k : Sub s.heap s'.heap)
   (hv : ∀ x av, ρ' x = some av → ∃ v, m' (Str.ofString x) = some v ∧ VR h₀ av v) (ho : s'.os = s.os) (hg : s'.gens = s.gens)
   (hout : ∀ e ∈ outer', e ∈ outer ∨ (e.scope.kind ≠ .module ∧ e.frame = some L)) : Sat p L' outer' h₀ s' ⟨ρ', st.σ⟩ (upd hid L (.frame m)) := by
 have G := S.grow (s' := s') k ho (hg ▸ S.gens)
 have np := priv_false.mp S.freshPriv
 rw [← hL'] at np
 have fr : h₀.get? L' = none := hL' ▸ S.fresh₀
 refine ⟨G.base, G.sub, ⟨m', hn, hv⟩, fr, np.2.1, ?_, fun a o e => ⟨(G.obj a o e).1, (G.obj a o e).2.1, ?_⟩, fun a c e => ?_, fun e he => ?_, G.os, G.gens⟩
 · rw [upd_ne _ _ np.1]; exact np.2.2
 · have : a ≠ L := fun q => by have e' : st.σ a = some o := e; rw [q, S.locS] at e'; exact xns e'
   rw [upd_ne _ _ this]; exact (G.obj a o e).2.2
 · by_cases q : a = L
   · subst q
     rw [upd_same] at e
     cases Option.some.inj e
     exact ⟨hm.keeps k, S.locF⟩
   · rw [upd_ne _ _ q] at e; exact G.hidd a c e
 · rcases hout e he with q | ⟨q1, q2⟩
   · refine xAEEA (S.out e q) fun h1 L'' m'' h2 h3 => ⟨h1, L'', m'', h2, ?_⟩
     rw [upd_ne _ _ fun z => by rw [z, S.locH] at h3; exact xns h3]; exact h3
   · exact ⟨q1, L, m, q2, upd_same ..⟩
theorem Sat.leave (S : Sat p L outer h₀ s st hid) (k : Sub h₀ h₁) (hv : ∀ x av, st.ρ x = some av → ∃ v, m (Str.ofString x) = some v ∧ VR h₀ av v) (S' : Sat p L' outer' h₁ s' st' (upd hid L (.frame m))) : Sat p L outer h₁ s' ⟨st.ρ, st'.σ⟩ hid := by
 have hL := S'.hidd L (.frame m) (upd_same ..)
 have hne : ∀ a c, hid a = some c → a ≠ L := fun a c e q => by rw [q, S.locH] at e; exact xns e
 refine ⟨S'.base, S'.sub, ⟨m, hL.1, fun x av e => let ⟨v, e1, e2⟩ := hv x av e; ⟨v, e1, e2.mono k⟩⟩, hL.2, ?_, S.locH, fun a o e => ⟨(S'.obj a o e).1, (S'.obj a o e).2.1, ?_⟩, fun a c e => S'.hidd a c (by rw [upd_ne _ _ (hne a c e)]; exact e), S.out, S'.os, S'.gens⟩
 · cases q : st'.σ L with
   | none => rfl
   | some o => have := (S'.obj L o q).2.2; rw [upd_same] at this; exact xsn this
 · cases q : hid a with
   | none => rfl
   | some c => have := (S'.obj a o e).2.2; rw [upd_ne _ _ (hne a c q), q] at this; exact xsn this
theorem XOK.leave {x cls : Value} {F : Prop} {h : Heap} {ρ : String → Option AV} (hx : XOK (· = Value.none) h₁ L' st' (upd hid L (.frame m)) h x cls F) : XOK (XFree L) h₁ L ⟨ρ, st'.σ⟩ hid h x cls F := by
 refine xEEEAAAAA hx fun e oe vs zz1 hu he hc hd hcase => ?_; subst zz1
 have un : ∀ {a}, Unt h₁ L' st' (upd hid L (.frame m)) a → Unt h₁ L ⟨ρ, st'.σ⟩ hid a := fun {a} u => by
   refine xA u fun u1 u2 => (xAA (priv_false.mp u2) fun v1 v2 v3 => ?_)
   have nL : a ≠ L := fun q => by rw [q, upd_same] at v3; exact xsn v3
   exact ⟨u1, priv_false.mpr ⟨nL, v2, by rw [upd_ne _ _ nL] at v3; exact v3⟩⟩
 exact ⟨e, oe, vs, rfl, un hu, he, hc, hd, hcase.imp id fun zy1 => xEEEEAAAAAA zy1 fun T oT ts y h1 hTe huT hT hdT h3 hy => ⟨T, oT, ts, y, h1, hTe, un huT, hT, hdT, h3, .inl hy⟩⟩
end
section
noncomputable abbrev CW (p : PC) (n : Nat) (b : Mode) (env : Env) (f : Value) (as : List AV) (Q : AV → St → Prop) (X : Value → St → Prop) (st : St) : Prop := GF p n b env VRs as VR (fun vs => call f vs) Q X st
theorem callFnC {f : Addr} {params : Arguments} {body : List Stmt} {scope : Scope} {dV : Value} {fo : Obj} {fd : FuncData} {as : List AV} {bs : List (String × AV)}
   (F : FnOK p f params body scope dV fo fd) (hbind : BindA p fd as bs) (hb : b ≠ .handler)
   (hloc : ∀ x ∈ bs, scope.names.lookup (Str.ofString x.1) = some .local) (hcell : ∀ x ∈ scope.names, x.2 ≠ .cell)
   (hco : scope.isCoroutine = false) (hgen : scope.isGenerator = false) (hk : scope.kind = .function)
   (H : ∀ L' q cd, SW p n .body (mkEnv scope L' f q cd) body (fun fl st' => Q (retOf fl) ⟨st.ρ, st'.σ⟩) (fun c st' => X c ⟨st.ρ, st'.σ⟩) ⟨fun x => bs.reverse.lookup x, st.σ⟩) :
   ∀ A outer h₀ s hid vs, AOK (n + 1) b A env outer → Sat p env.locals outer h₀ s st hid → VRs h₀ as vs →
     codeAny (model p.prog p.w) A (.call (.ref f) ⟨vs, []⟩) (wants (NP p env.locals outer h₀ hid VR Q) (EP p env.locals outer h₀ hid X)) s := by
 intro A outer h₀ s hid vs hA S hv
 refine xEA S.loc fun m hn hm => ?_
 have hold : ∀ {h : Heap}, Sub p.base h → h.get? f = some fo := fun {h} k => k _ _ (p.hK _ _ F.look)
 refine codeAny_call_function (fd := fd) (by have := hA.depth; show A.depth < 1000; lia) (hold (S.base.trans S.sub)) F.data (by rw [F.scope]; exact hco) (by rw [F.scope]; exact hgen) F.body
   ((codeRec_of p.hK F.code).keeps (S.base.trans S.sub)) ?_
 refine hbind _ _ _ _ _ _ _ _ _ _ S hv fun h₁ s₁ ws k₁ S₁ hw => (xEA S₁.loc fun m₁ hn₁ hm₁ => ?_)
 refine wpAny_newFunctionEnv (by rw [F.scope]; exact hcell) (fun x hx => ?_) (fun h' hns hsb => ⟨?_, codeAny_func ?_⟩) (by rw [F.scope]; exact hk)
 · have hx1 := (List.of_mem_zip hx).1
   refine xEA (List.mem_map.mp hx1) fun y hy e => ?_
   rw [F.scope, ← e]
   exact hloc y hy
 · exact (p.hT.nolimit.keeps (S₁.base.trans S₁.sub)).fresh _ hsb
 have kk : Sub s₁.heap h' := fun a o e => hsb.extBut a o (Nat.ne_of_lt (Heap.lt_size e)) (Heap.get?_push_of_some _ e)
 have hse : ∀ e, e ∈ (if b = .comp then outer else env :: outer) → e ∈ outer ∨ (e.scope.kind ≠ .module ∧ e.frame = some env.locals) := fun e he => by
   split at he
   · exact .inl he
   · rename_i hc
     rcases List.mem_cons.mp he with rfl | he
     · exact .inr ⟨by rw [hA.kind]; decide, hA.frame hc⟩
     · exact .inl he
 have SE := S₁.enter (s' := { s₁ with heap := h', toks := s₁.toks + ((bs.map fun x => Str.ofString x.1).zip ws).length }) (ρ' := fun x => bs.reverse.lookup x) hn₁ rfl hns kk (fun x av e => lookup_zip_rev hw e) rfl rfl hse
 have henv : newEnv fd.scope s₁.heap.objs.size fd.globals fd.closure (fd.qualname ++ Str.ofString ".<locals>.") (some f) fd.code none fd.builtins = mkEnv scope s₁.heap.objs.size f (fd.qualname ++ Str.ofString ".<locals>.") fd.code := by
   unfold newEnv mkEnv
   rw [F.scope, F.glob, F.bi, F.clos]
 rw [show newEnv fd.scope s₁.heap.objs.size fd.globals fd.closure (fd.qualname ++ ".<locals>.") (some f) fd.code none fd.builtins = mkEnv scope s₁.heap.objs.size f (fd.qualname ++ Str.ofString ".<locals>.") fd.code from henv]
 have hA' : AOK n .body (A.deeper (mkEnv scope s₁.heap.objs.size f (fd.qualname ++ Str.ofString ".<locals>.") fd.code)) (mkEnv scope s₁.heap.objs.size f (fd.qualname ++ Str.ofString ".<locals>.") fd.code) (if b = .comp then outer else env :: outer) := by
   refine ⟨?_, fun _ => hA.handled hb, ?_, ?_, hk, fun _ => rfl, rfl, rfl⟩
   · show A.frames.map _ = _
     rw [hA.frames]; rfl
   · show A.depth + 1 + 20 * n ≤ 900
     have := hA.depth; lia
   · show A.units + 3 + 100 * n ≤ 9000
     have := hA.units; lia
 refine wpAny_mono (H _ _ _ _ _ _ _ _ hA' SE) (fun fl s₂ z_ => z_.elim fun h₂ af st₂ k₂ S₂ r q => ?_) fun x s₂ zy2 => xEEEAAA zy2 fun h₂ cls st₂ k₂ S₂ hx q => ?_
 · have SL := S₁.leave k₂ hm₁ S₂
   have hr : VR h₂ (retOf af) (match fl with | .ret v => v | _ => .none) := by
     cases r with
     | next => exact .none
     | brk => exact .none
     | cont => exact .none
     | ret hv => exact hv
   cases r with
   | next => exact ⟨h₂, _, _, k₁.trans k₂, SL, hr, q⟩
   | brk => exact ⟨h₂, _, _, k₁.trans k₂, SL, hr, q⟩
   | cont => exact ⟨h₂, _, _, k₁.trans k₂, SL, hr, q⟩
   | ret _ => exact ⟨h₂, _, _, k₁.trans k₂, SL, hr, q⟩
 · unfold leaving
   exact wpAny_bind (note_X hA' (by decide) S₂ hx fun h₃ S₃ hx₃ => flight_X S₃ hx₃ fun h₄ S₄ hx₄ => ⟨h₂, cls, _, k₁.trans k₂, S₁.leave k₂ hm₁ S₄, (XOK.leave hx₄).weaken (fun _ z => z) False.elim, q⟩)
theorem callFn {f : Addr} {params : Arguments} {body : List Stmt} {scope : Scope} {dV : Value} {fo : Obj} {fd : FuncData} {as : List AV} {bs : List (String × AV)}
   (F : FnOK p f params body scope dV fo fd) (hbind : BindA p fd as bs) (hb : b ≠ .handler)
   (hloc : ∀ x ∈ bs, scope.names.lookup (Str.ofString x.1) = some .local) (hcell : ∀ x ∈ scope.names, x.2 ≠ .cell)
   (hco : scope.isCoroutine = false) (hgen : scope.isGenerator = false) (hk : scope.kind = .function)
   (H : ∀ L' q cd, SW p n .body (mkEnv scope L' f q cd) body (fun fl st' => Q (retOf fl) ⟨st.ρ, st'.σ⟩) (fun c st' => X c ⟨st.ρ, st'.σ⟩) ⟨fun x => bs.reverse.lookup x, st.σ⟩) :
   CW p (n + 1) b env (.ref f) as Q X st :=
 GF.mk fun A outer h₀ s hid vs hA S hv => wpAny_call (callFnC F hbind hb hloc hcell hco hgen hk H A outer h₀ s hid vs hA S hv)
noncomputable abbrev ArgR : Heap → List AV → Args → Prop := fun h as a => VRs h as a.pos ∧ a.kw = []
noncomputable abbrev AW (p : PC) (n : Nat) (b : Mode) (env : Env) (f : Value) (pos : Pos) (l : List Expr) (Q : List AV → St → Prop) (X : Value → St → Prop) (st : St) : Prop := GW p n b env ArgR (evalArgs f true (backTo pos (starEach l env)) []) Q X st
theorem AW.nil {f : Value} {pos : Pos} {Q : List AV → St → Prop} (h : Q [] st) : AW p n b env f pos [] Q X st :=
 GW.mk fun _ _ _ _ _ _ S => PyProof.Rows.evalArgs_none (NP.mk S (.refl _) ⟨.nil, rfl⟩ h)
theorem AW.cons {f : Value} {pos : Pos} {e : Expr} {l : List Expr} {Q : List AV → St → Prop} (H : LW p n b env pos (e :: l) Q X st)
   (hs : backTo pos (starEach (e :: l) env) = (false, eval e env) :: backTo pos (starEach l env) := by rfl) : AW p n b env f pos (e :: l) Q X st :=
 GW.mk fun _ _ _ _ _ hA S => by
   have H' := H
   unfold LW at H'
   rw [hs] at H' ⊢
   exact evalArgs_plain (GW.use H' hA S (.refl _) fun _ _ _ _ _ k1 _ S1 hv q => NP.mk S1 k1 ⟨hv, rfl⟩ q)
end
noncomputable def Ext (hid hd : Hid) : Prop := ∀ a c, hid a = some c → hd a = some c
theorem Ext.refl (hid : Hid) : Ext hid hid := fun _ _ e => e
theorem Ext.upd {hid hd : Hid} {a : Addr} {c : HC} (h : Ext hid hd) (e : hid a = none) : Ext hid (upd hd a c) := fun x y q => by
 rw [upd_ne _ _ fun z => by rw [z, e] at q; exact xns q]; exact h x y q
section
variable {p : PC} {L : Addr} {outer : List Env} {h₀ h₁ : Heap} {s s' : Shared} {st : St} {hid hd : Hid} {X : Value → St → Prop}
theorem priv_ext (k : Ext hid hd) {a : Addr} (h : priv L st hd a = false) : priv L st hid a = false := by
 refine xAA (priv_false.mp h) fun h1 h2 h3 => (priv_false.mpr ⟨h1, h2, ?_⟩)
 cases q : hid a with
 | none => rfl
 | some c => rw [k a c q] at h3; exact xsn h3
theorem Sat.drop (S : Sat p L outer h₀ s st hd) (k : Ext hid hd) (out : ∀ e ∈ outer, e.scope.kind ≠ .module ∧ ∃ L' m, e.frame = some L' ∧ hid L' = some (.frame m)) : Sat p L outer h₀ s st hid := by
 have no : ∀ a, hd a = none → hid a = none := fun a e => by
   cases q : hid a with
   | none => rfl
   | some c => rw [k a c q] at e; exact xsn e
 exact ⟨S.base, S.sub, S.loc, S.locF, S.locS, no _ S.locH, fun a o e => ⟨(S.obj a o e).1, (S.obj a o e).2.1, no _ (S.obj a o e).2.2⟩, fun a c e => S.hidd a c (k a c e), out, S.os, S.gens⟩
theorem EP.drop {x : Value} (h : EP p L outer h₁ hd X x s') (k : Ext hid hd) (kk : Sub h₀ h₁) (out : ∀ e ∈ outer, e.scope.kind ≠ .module ∧ ∃ L' m, e.frame = some L' ∧ hid L' = some (.frame m)) : EP p L outer h₀ hid X x s' := by
 refine xEEEAAA h fun h₂ cls st' k' S zz1 q => ?_; obtain ⟨e, oe, vs, rfl, hu, he, hc, hdt, hcase⟩ := zz1
 have un : ∀ {a}, Unt h₂ L st' hd a → Unt h₂ L st' hid a := fun u => ⟨u.1, priv_ext k u.2⟩
 exact ⟨h₂, cls, st', kk.trans k', S.drop k out, ⟨e, oe, vs, rfl, un hu, he, hc, hdt, hcase.imp id fun zy1 => xEEEEAAAAAA zy1 fun T oT ts y h1 hTe huT hT hdT h3 hy => ⟨T, oT, ts, y, h1, hTe, un huT, hT, hdT, h3, hy⟩⟩, q⟩
theorem Sat.setH (S : Sat p L outer h₀ s st hd) {a : Addr} {o o' : Obj} (e : hd a = some (.raw o)) (hs : Heap.SameBut a s.heap s'.heap) (h : s'.heap.get? a = some o') (ho : s'.os = s.os) (hg : s'.gens = s.gens) : Sat p L outer h₀ s' st (upd hd a (.raw o')) := by
 have ha := S.hidd a _ e
 have nL : L ≠ a := fun q => by rw [← q, S.locH] at e; exact xns e
 refine ⟨S.base, fun b x q => (hs.2 b fun z => ?_).trans (S.sub b x q), ?_, S.locF, S.locS, ?_, fun b x q => ⟨(S.obj b x q).1.same (hs.2 b fun z => ?_), (S.obj b x q).2.1, ?_⟩, fun b c q => ?_, fun en he => ?_, ho.trans S.os, hg ▸ S.gens⟩
 · rw [z, ha.2] at q; exact xns q
 · exact xEA S.loc fun m hn hv => ⟨m, hn.sameBut hs nL, hv⟩
 · rw [upd_ne _ _ nL]; exact S.locH
 · have := (S.obj b x q).2.2; rw [z, e] at this; exact xsn this
 · have hne : b ≠ a := fun z => by have := (S.obj b x q).2.2; rw [z, e] at this; exact xsn this
   rw [upd_ne _ _ hne]; exact (S.obj b x q).2.2
 · by_cases z : b = a
   · subst z
     rw [upd_same] at q
     cases Option.some.inj q
     exact ⟨h, ha.2⟩
   · rw [upd_ne _ _ z] at q
     exact ⟨(S.hidd b c q).1.same (hs.2 b z), (S.hidd b c q).2⟩
 · refine xAEEA (S.out en he) fun h1 L' m h2 h3 => ⟨h1, L', m, h2, ?_⟩
   rw [upd_ne _ _ fun z => by rw [z, e] at h3; cases Option.some.inj h3]; exact h3
theorem Sat.pushH (S : Sat p L outer h₀ s st hid) {o : Obj} (hf : o.isFreed = false) (hh : s'.heap = s.heap.push o) (ho : s'.os = s.os) (hg : s'.gens = s.gens) :
   hid s.heap.objs.size = none ∧ Sat p L outer h₀ s' st (upd hid s.heap.objs.size (.raw o)) := by
 have S' := S.grow (s' := s') (hh ▸ Sub.push _ o) ho (hg ▸ S.gens)
 refine xAA (priv_false.mp S.freshPriv) fun n1 n2 n3 => ?_
 refine ⟨n3, S'.base, S'.sub, S'.loc, S'.locF, S'.locS, ?_, fun a x e => ⟨(S'.obj a x e).1, (S'.obj a x e).2.1, ?_⟩, fun a c e => ?_, fun en he => ?_, S'.os, S'.gens⟩
 · rw [upd_ne _ _ (Ne.symm n1)]; exact S'.locH
 · rw [upd_ne _ _ fun z => by rw [z, n2] at e; exact xns e]; exact (S'.obj a x e).2.2
 · by_cases z : a = s.heap.objs.size
   · subst z
     rw [upd_same] at e
     cases Option.some.inj e
     exact ⟨by rw [hh]; exact Heap.get?_push_size _ hf, S.fresh₀⟩
   · rw [upd_ne _ _ z] at e; exact S'.hidd a c e
 · refine xAEEA (S'.out en he) fun h1 L' m h2 h3 => ⟨h1, L', m, h2, ?_⟩
   rw [upd_ne _ _ fun z => by rw [z, n3] at h3; exact xns h3]; exact h3
theorem Sat.extB (S : Sat p L outer h₀ s st hd) {a : Addr} (hu : Unt h₀ L st hd a) (hs : Heap.ExtBut a s.heap s'.heap) (ho : s'.os = s.os) (hg : s'.gens = s.gens) : Sat p L outer h₀ s' st hd :=
 S.agree (fun b o e nu => hs b o (fun z => nu (z ▸ hu)) e) ho hg
theorem upd_upd {α β : Type} [DecidableEq α] (f : α → Option β) (a : α) (x y : β) : upd (upd f a x) a y = upd f a y := by
 funext z
 by_cases q : z = a
 · subst q; simp [upd_same]
 · rw [upd_ne _ _ q, upd_ne _ _ q, upd_ne _ _ q]
end
section
variable {p : PC} {L : Addr} {outer : List Env} {h₀ h₁ : Heap} {s s' : Shared} {st : St} {hid hd : Hid}
theorem Sat.hide (S : Sat p L outer h₀ s st hid) {a : Addr} {o : Obj} (u : Unt h₀ L st hid a) (e : s.heap.get? a = some o) : Sat p L outer h₀ s st (upd hid a (.raw o)) := by
 refine xAA (priv_false.mp u.2) fun n1 n2 n3 => ?_
 refine ⟨S.base, S.sub, S.loc, S.locF, S.locS, ?_, fun b x q => ⟨(S.obj b x q).1, (S.obj b x q).2.1, ?_⟩, fun b c q => ?_, fun en he => ?_, S.os, S.gens⟩
 · rw [upd_ne _ _ (Ne.symm n1)]; exact S.locH
 · rw [upd_ne _ _ fun z => by rw [z, n2] at q; exact xns q]; exact (S.obj b x q).2.2
 · by_cases z : b = a
   · subst z
     rw [upd_same] at q
     cases Option.some.inj q
     exact ⟨e, u.1⟩
   · rw [upd_ne _ _ z] at q; exact S.hidd b c q
 · refine xAEEA (S.out en he) fun h1 L' m h2 h3 => ⟨h1, L', m, h2, ?_⟩
   rw [upd_ne _ _ fun z => by rw [z, n3] at h3; exact xns h3]; exact h3
theorem Sat.untold (S : Sat p L outer h₀ s st hd) {a : Addr} {o : Obj} (e : hd a = some (.raw o)) (n : hid a = none) : Unt h₀ L st hid a := by
 refine ⟨(S.hidd a _ e).2, priv_false.mpr ⟨fun z => ?_, ?_, n⟩⟩
 · rw [z, S.locH] at e; exact xns e
 · cases q : st.σ a with
   | none => rfl
   | some x => have := (S.obj a x q).2.2; rw [e] at this; exact xsn this
end
noncomputable def over (hid : Hid) : List Addr → List Obj → Hid
 | a :: as, o :: os => over (upd hid a (.raw o)) as os
 | _, _ => hid
theorem Ext.trans {a b c : Hid} (x : Ext a b) (y : Ext b c) : Ext a c := fun q z e => y q z (x q z e)
theorem ext_over : ∀ (as : List Addr) (os : List Obj) {hid : Hid}, as.Nodup → (∀ a ∈ as, hid a = none) → Ext hid (over hid as os)
 | [], _, _, _, _ => fun _ _ e => e
 | _ :: _, [], _, _, _ => fun _ _ e => e
 | a :: as, o :: os, hid, hnd, h => by
   refine Ext.trans ((Ext.refl hid).upd (h a (.head _))) (ext_over as os (List.nodup_cons.mp hnd).2 fun c hc => ?_)
   have hca : c ≠ a := fun z => (List.nodup_cons.mp hnd).1 (by rw [← z]; exact hc)
   rw [upd_ne _ _ hca]
   exact h c (.tail _ hc)
structure ItrOK (p : PC) (target : Expr) (it : Value) (as : List Addr) (hs : Heap) (G : (Addr → Option AObj) → Prop) (J : List AV → List Obj → Prop) : Prop where
 nodup : as.Nodup
 next : ∀ {v r os A L outer h₀ s st hid E} {P : Value → Shared → Prop}, J (v :: r) os → A.handled = none → (∀ a ∈ as, hid a = none) → Sat p L outer h₀ s st (over hid as os) → Sub hs h₀ → G st.σ →
   (∀ s' h₁ os' u, Sub h₀ h₁ → J r os' → Sat p L outer h₁ s' st (over hid as os') → VR h₁ v u → P u s') →
   wpAny (model p.prog p.w) A (pyNext it) (fun r' s₁ => ∃ u, r' = some u ∧ wpAny (model p.prog p.w) A (letOwnedTupleGo target it u) (fun _ s₂ => P u s₂) E s₁) E s
 again : ∀ {l os A L outer h₀ s st hid E} {P : Value → Shared → Prop}, J l os → (∀ a ∈ as, hid a = none) → Sat p L outer h₀ s st (over hid as os) → P it s → wpAny (model p.prog p.w) A (pyIter it) P E s
 stop : ∀ {os A L outer h₀ s st hid E} {P : Shared → Prop}, J [] os → A.handled = none → (∀ a ∈ as, hid a = none) → Sat p L outer h₀ s st (over hid as os) → Sub hs h₀ → G st.σ →
   (∀ s' h₁, Sub h₀ h₁ → Sat p L outer h₁ s' st hid → P s') →
   wpAny (model p.prog p.w) A (pyNext it) (fun r' s₁ => r' = none ∧ P s₁) E s
noncomputable def ItE (p : PC) (n : Nat) (b : Mode) (env : Env) (target iter : Expr) (Q : List AV → ((Addr → Option AObj) → Prop) → St → Prop) (X : Value → St → Prop) (st : St) : Prop :=
 ∀ A outer h₀ s hid (P : Value → Shared → Prop), AOK n b A env outer → Sat p env.locals outer h₀ s st hid →
   (∀ s' h₁ it as os J items G st1, Sub h₀ h₁ → ItrOK p target it as h₁ G J → (∀ a ∈ as, hid a = none) → as.length = os.length → J items os → Sat p env.locals outer h₁ s' st1 (over hid as os) → Q items G st1 → P it s') →
   wpAny (model p.prog p.w) A (eval iter env) (fun x s₁ => wpAny (model p.prog p.w) A (pyIter x) P (EP p env.locals outer h₀ hid X) s₁) (EP p env.locals outer h₀ hid X) s
noncomputable def IterW (p : PC) (n : Nat) (b : Mode) (env : Env) (target : Expr) (a : AV) (items : List AV) (G : (Addr → Option AObj) → Prop) (st : St) : Prop :=
 ∀ A outer h₀ s hid v E (P : Value → Shared → Prop), AOK n b A env outer → Sat p env.locals outer h₀ s st hid → VR h₀ a v →
   (∀ s' h₁ it as os J, Sub h₀ h₁ → ItrOK p target it as h₁ G J → (∀ a ∈ as, hid a = none) → as.length = os.length → J items os → Sat p env.locals outer h₁ s' st (over hid as os) → P it s') →
   wpAny (model p.prog p.w) A (pyIter v) P E s
noncomputable def ForW (p : PC) (n : Nat) (b : Mode) (env : Env) (target : Expr) (body orelse : List Stmt) (G : (Addr → Option AObj) → Prop) (X : Value → St → Prop) : List AV → (AF → St → Prop) → St → Prop
 | [], Q, st => G st.σ ∧ SW p n b env orelse Q X st
 | v :: r, Q, st => G st.σ ∧ GF p n b env VR v UR (assign target env) (fun _ st1 => SW p n b env body (loopS (ForW p n b env target body orelse G X r Q) Q) X st1) X st
section
theorem ItE.of {target iter : Expr} {Q : List AV → ((Addr → Option AObj) → Prop) → St → Prop} (H : EW p n b env iter (fun a st1 => ∃ items G, IterW p n b env target a items G st1 ∧ Q items G st1) X st) : ItE p n b env target iter Q X st :=
 fun _ _ _ _ _ _ hA S K => H.use hA S (.refl _) fun _ _ _ _ _ k1 _ S1 hv zy2 => xEEA zy2 fun items G hI hQ =>
   hI _ _ _ _ _ _ _ _ hA S1 hv fun s2 h2 it as os J k2 I hf hos hJ S2 => K s2 h2 it as os J items G _ (k1.trans k2) I hf hos hJ S2 hQ
theorem XW.for {target iter : Expr} {body orelse : List Stmt} {pos : Pos} {Q : AF → St → Prop} (hb : b = .body)
   (H : ItE p n b env target iter (fun items G st1 => ForW p n b env target body orelse G X items Q st1) X st)
   (hs : ∀ x, foldedSetIterable iter env x = pure x := by intro _; rfl) : XW p n b env (.For target iter body orelse pos) Q X st := by
 refine GW.mk fun A outer h₀ s hid hA S => ?_
 have hb1 : b ≠ .comp := by rw [hb]; decide
 have hh : A.handled = none := hA.handled (by rw [hb]; decide)
 refine wpAny_For (H _ _ _ _ _ _ hA S fun s2 h2 it as os J items G st1 k02 I hf _ hJ S2 hF => ?_) hs
 have out := S.out
 have ex : ∀ os, Ext hid (over hid as os) := fun os => ext_over as os I.nodup hf
 refine codeAny_forLoop_any (fun m s' => ∃ l os h₃ st', m = l.length ∧ J l os ∧ Sub h2 h₃ ∧ Sat p env.locals outer h₃ s' st' (over hid as os) ∧ ForW p n b env target body orelse G X l Q st') ?_ items.length ⟨items, os, h2, st1, rfl, hJ, .refl _, S2, hF⟩
 intro m s' zz2; refine xEEEEAAAA zz2 fun l os' h₃ st' zz3 hJ' k3 S3 hF' => ?_; subst zz3
 have kk : Sub h₀ h₃ := k02.trans k3
 have pe : ∀ {h₄ hd₄ x s₄}, EP p env.locals outer h₄ hd₄ X x s₄ → Ext hid hd₄ → Sub h₀ h₄ → notedBy (model p.prog p.w) A env (cameBackBy (model p.prog p.w) A env (EP p env.locals outer h₀ hid X)) x s₄ :=
   fun he kx k4 => passes_EP' hA hb1 _ _ (he.drop kx k4 out)
 cases l with
 | nil =>
   refine xA hF' fun hG hF' => ?_
   refine wpAny_mono (I.stop hJ' hh hf S3 k3 hG (P := fun s4 => wpAny (model p.prog p.w) A (execs orelse env) (fun f s5 => NP p env.locals outer h₀ hid FR Q f s5) (notedBy (model p.prog p.w) A env (cameBackBy (model p.prog p.w) A env (EP p env.locals outer h₀ hid X))) s4)
     fun s4 h4 k4 S4 => ?_) (fun r' s4 zy3 => xA zy3 fun e q => ?_) fun _ _ z => z
   · exact wpAny_mono (hF' _ _ _ _ _ hA S4) (fun f s5 z_ => z_.elim fun h5 y st5 k5 S5 r5 q5 => ⟨h5, y, st5, (kk.trans k4).trans k5, S5, r5, q5⟩) fun x s5 he => pe he (.refl _) (kk.trans k4)
   · subst e
     exact q
 | cons v r =>
   refine xA hF' fun hG hF' => ?_
   refine wpAny_mono (I.next hJ' hh hf S3 k3 hG (P := fun u s4 => wpAny (model p.prog p.w) A (PySem.assign target env u) (fun _ s5 => wpAny (model p.prog p.w) A (execs body env) (fun f s6 => match f with
           | .next | .cont => ∃ m', m' < (v :: r).length ∧ ∃ l os h₃ st', m' = l.length ∧ J l os ∧ Sub h2 h₃ ∧ Sat p env.locals outer h₃ s6 st' (over hid as os) ∧ ForW p n b env target body orelse G X l Q st'
           | .brk => NP p env.locals outer h₀ hid FR Q .next s6
           | .ret w => NP p env.locals outer h₀ hid FR Q (.ret w) s6) (notedBy (model p.prog p.w) A env (cameBackBy (model p.prog p.w) A env (EP p env.locals outer h₀ hid X))) s5) (notedBy (model p.prog p.w) A env (cameBackBy (model p.prog p.w) A env (EP p env.locals outer h₀ hid X))) s4)
     fun s4 h4 os4 u k4 j4 S4 hu => ?_) (fun r' s4 zy4 => xEA zy4 fun u e q => ?_) fun _ _ z => z
   · refine wpAny_mono (hF' _ _ _ _ _ _ hA S4 hu) (fun _ s5 z_ => z_.elim fun h5 y st5 k5 S5 _ q5 => ?_) fun x s5 he => pe he (ex _) (kk.trans k4)
     have kk5 : Sub h₀ h5 := (kk.trans k4).trans k5
     refine wpAny_mono (q5 _ _ _ _ _ hA S5) (fun f s6 z_ => z_.elim fun h6 y6 st6 k6 S6 r6 q6 => ?_) fun x s6 he => pe he (ex _) kk5
     have kk6 : Sub h₀ h6 := kk5.trans k6
     have k26 : Sub h2 h6 := ((k3.trans k4).trans k5).trans k6
     cases r6 with
     | next => exact ⟨r.length, by simp, r, os4, h6, st6, rfl, j4, k26, S6, q6⟩
     | cont => exact ⟨r.length, by simp, r, os4, h6, st6, rfl, j4, k26, S6, q6⟩
     | brk => exact ⟨h6, _, st6, kk6, S6.drop (ex _) out, .next, q6⟩
     | ret hv => exact ⟨h6, _, st6, kk6, S6.drop (ex _) out, .ret hv, q6⟩
   · subst e
     exact q
end
section
noncomputable def ownsTuple (nm : String) : Bool := ["enumerate", "zip", "dict_itemiterator", "dict_reverseitemiterator", "odict_iterator", "itertools.zip_longest", "itertools.pairwise"].contains nm
set_option tactic.hygienic true in
theorem letOwned_other {M : Model} {A : Around} {E : Value → Shared → Prop} {s : Shared} {target : Expr} {I : Addr} {o : Obj} {nm : String} {u : Value} {Q : Unit → Shared → Prop} (ho : s.heap.get? I = some o) (hc : o.cls = .type nm) (hn : ownsTuple nm = false) (h : Q () s) :
   wpAny M A (letOwnedTupleGo target (.ref I) u) Q E s := by
 unfold letOwnedTupleGo
 have go : ∀ a, wpAny M A (do
     let o ← load I
     match o.cls, o.data with
     | .type n, .fields vs =>
       if ["enumerate", "zip", "dict_itemiterator", "dict_reverseitemiterator", "odict_iterator", "itertools.zip_longest", "itertools.pairwise"].contains n && vs[0]? == some (rawInt a) then
         rule "for.unpacks-the-owned-tuple"
         updateField I 0 .none
     | _, _ => pure () : Sem Unit) Q E s := fun a => by
   refine wpAny_bind (wpAny_load ho ?_)
   rw [hc]
   split
   · rename_i n' vs e1 e2
     cases e1
     have : (["enumerate", "zip", "dict_itemiterator", "dict_reverseitemiterator", "odict_iterator", "itertools.zip_longest", "itertools.pairwise"].contains nm) = false := hn
     rw [this]
     simp only [Bool.false_and, Bool.false_eq_true, if_false]
     exact wpAny_pure h
   · exact wpAny_pure h
 split
 · cases u <;> first | exact go _ | exact wpAny_pure h
 · cases u <;> first | exact go _ | exact wpAny_pure h
 · exact wpAny_pure h
theorem drop_cons {α : Type} {l r : List α} {i : Nat} {v : α} (e : l.drop i = v :: r) : l[i]? = some v ∧ l.drop (i + 1) = r := by
 constructor
 · have := congrArg (fun x => x[0]?) e
   simpa using this
 · have := congrArg (fun x => x.drop 1) e
   simpa using this
theorem drop_nil {α : Type} {l : List α} {i : Nat} (e : l.drop i = []) : l[i]? = none := by
 have : l.length ≤ i := List.drop_eq_nil_iff.mp e
 simp [this]
theorem out_drop {L : Addr} {outer : List Env} {h₀ : Heap} {s : Shared} {hid : Hid} {a : Addr} {o : Obj} (S : Sat p L outer h₀ s st (upd hid a (.raw o))) : ∀ e ∈ outer, e.scope.kind ≠ .module ∧ ∃ L' m, e.frame = some L' ∧ hid L' = some (.frame m) := fun en he => by
 refine xAEEA (S.out en he) fun h1 L' m h2 h3 => ⟨h1, L', m, h2, ?_⟩
 by_cases z : L' = a
 · rw [z, upd_same] at h3; cases Option.some.inj h3
 · rw [upd_ne _ _ z] at h3; exact h3
theorem Sat.unhide {L : Addr} {outer : List Env} {h₀ : Heap} {s : Shared} {hid : Hid} {I1 : Addr} {o1 : Obj} (S : Sat p L outer h₀ s st (upd hid I1 (.raw o1))) (n1 : hid I1 = none) : Sat p L outer h₀ s st hid ∧ Unt h₀ L st hid I1 :=
 ⟨S.drop ((Ext.refl hid).upd n1) (out_drop S), S.untold (upd_same ..) n1⟩
theorem iter_list {target : Expr} {a : AV} {l : List AV} (hl : IsL st.σ a l) : IterW p n b env target a l (fun σ => IsL σ a l) st := by
 intro A outer h₀ s hid v E P hA S hv K
 refine xEEEAA (hl.at S hv) fun y vs k zz1 e r => ?_; subst zz1
 refine wpAny_pyIter_list (lst_is e) (xA (S.pushH (s' := { s with heap := s.heap.push { cls := .type "list_iterator", data := .fields #[.ref y, .int 0 0] } }) (o := { cls := .type "list_iterator", data := .fields #[.ref y, .int 0 0] }) rfl rfl rfl rfl) fun hno S1 => (K _ _ (.ref s.heap.objs.size) [s.heap.objs.size] [_] (fun rest os => ∃ (i : Nat) (o : Obj), os = [o] ∧ o.cls = .type "list_iterator" ∧ o.data = .fields #[.ref y, .int i 0] ∧ l.drop i = rest) (.refl _) ?_ (by simpa using hno) rfl ⟨0, _, rfl, rfl, rfl, rfl⟩ S1))
 refine ⟨by simp, ?_, ?_, ?_⟩
 · intro v' r' os A' L' outer' h₁ s₁ st₁ hid' E' P' zz2 hh hf S1 kk hG K1; refine xEEAAA zz2 fun i o zz3 hc hd' hr => ?_; subst zz3
   replace S1 : Sat p L' outer' h₁ s₁ st₁ (upd hid' s.heap.objs.size (.raw o)) := S1
   refine xA (drop_cons hr) fun hx hr' => (xEEEAA (hG.at S1 (hv.mono kk)) fun y' vs' k' e' e1 r1 => ?_)
   cases e'
   refine xEA (r1.get hx) fun u hu1 hu2 => ?_
   have ho := (S1.hidd _ _ (upd_same hid' s.heap.objs.size (HC.raw o))).1
   refine wpAny_pyNext_list_item ⟨o, ho, hc, hd'⟩ (lst_is e1) (by simpa using hu1) fun h' hit hs => ⟨u, rfl, (xEAA hit fun o' ho' hc' hd'' => (letOwned_other (nm := "list_iterator") ho' hc' (by decide) ?_))⟩
   have S2 := S1.setH (s' := { s₁ with heap := h' }) (upd_same hid' s.heap.objs.size (HC.raw o)) hs ho' rfl rfl
   rw [upd_upd] at S2
   exact K1 _ _ [o'] _ (.refl _) ⟨i + 1, o', rfl, hc', hd'', hr'⟩ S2 hu2
 · intro l' os A' L' outer' h₁ s₁ st₁ hid' E' P' zz4 hf S1 hP; refine xEEAAA zz4 fun i o zz5 hc hd' hr => ?_; subst zz5
   exact wpAny_pyIter_listiter ⟨o, (S1.hidd _ _ (upd_same hid' s.heap.objs.size (HC.raw o))).1, hc, hd'⟩ hP
 · intro os A' L' outer' h₁ s₁ st₁ hid' E' P' zz6 hh hf S1 kk hG K1; refine xEEAAA zz6 fun i o zz7 hc hd' hr => ?_; subst zz7
   replace S1 : Sat p L' outer' h₁ s₁ st₁ (upd hid' s.heap.objs.size (.raw o)) := S1
   refine xEEEAA (hG.at S1 (hv.mono kk)) fun y' vs' k' e' e1 r1 => ?_
   cases e'
   have ho := (S1.hidd _ _ (upd_same hid' s.heap.objs.size (HC.raw o))).1
   exact wpAny_pyNext_list_end hh ⟨o, ho, hc, hd'⟩ (lst_is e1) (by have := drop_nil hr; simp at this ⊢; rw [r1.length]; exact this) fun h' hs => ⟨rfl, (xA (S1.unhide (hf _ (.head _))) fun S2 u => (K1 _ _ (.refl _) (S2.extB (s' := { s₁ with heap := h' }) u hs rfl rfl)))⟩
set_option tactic.hygienic true in
theorem iter_tup {target : Expr} {l : List AV} : IterW p n b env target (.tup l) l (fun _ => True) st := by
 intro A outer h₀ s hid v E P hA S hv K
 apply VR.onTup hv; intro y vs k e r
 have isT : ∀ {h : Heap}, h.get? y = some (tupObj vs k) → h.IsTuple y vs.toArray := fun e => ⟨_, e, rfl, k, rfl⟩
 refine wpAny_pyIter_tuple (isT (S.sub _ _ e)) (xA (S.pushH (s' := { s with heap := s.heap.push { cls := .type "tuple_iterator", data := .fields #[.ref y, .int 0 0] } }) (o := { cls := .type "tuple_iterator", data := .fields #[.ref y, .int 0 0] }) rfl rfl rfl rfl) fun hno S1 => (K _ _ (.ref s.heap.objs.size) [s.heap.objs.size] [_] (fun rest os => ∃ (i : Nat) (o : Obj), os = [o] ∧ o.cls = .type "tuple_iterator" ∧ o.data = .fields #[.ref y, .int i 0] ∧ l.drop i = rest) (.refl _) ?_ (by simpa using hno) rfl ⟨0, _, rfl, rfl, rfl, rfl⟩ S1))
 refine ⟨by simp, ?_, ?_, ?_⟩
 · intro v' r' os A' L' outer' h₁ s₁ st₁ hid' E' P' zz8 hh hf S1 kk hG K1; refine xEEAAA zz8 fun i o zz9 hc hd' hr => ?_; subst zz9
   replace S1 : Sat p L' outer' h₁ s₁ st₁ (upd hid' s.heap.objs.size (.raw o)) := S1
   refine xA (drop_cons hr) fun hx hr' => (xEA (r.get hx) fun u hu1 hu2 => ?_)
   have ho := (S1.hidd _ _ (upd_same hid' s.heap.objs.size (HC.raw o))).1
   refine wpAny_pyNext_tuple_item ⟨o, ho, hc, hd'⟩ (isT (S1.sub _ _ (kk _ _ e))) (by simpa using hu1) fun h' hit hs => ⟨u, rfl, (xEAA hit fun o' ho' hc' hd'' => (letOwned_other (nm := "tuple_iterator") ho' hc' (by decide) ?_))⟩
   have S2 := S1.setH (s' := { s₁ with heap := h' }) (upd_same hid' s.heap.objs.size (HC.raw o)) hs ho' rfl rfl
   rw [upd_upd] at S2
   exact K1 _ _ [o'] _ (.refl _) ⟨i + 1, o', rfl, hc', hd'', hr'⟩ S2 (hu2.mono kk)
 · intro l' os A' L' outer' h₁ s₁ st₁ hid' E' P' zz10 hf S1 hP; refine xEEAAA zz10 fun i o zz11 hc hd' hr => ?_; subst zz11
   exact wpAny_pyIter_tupleiter ⟨o, (S1.hidd _ _ (upd_same hid' s.heap.objs.size (HC.raw o))).1, hc, hd'⟩ hP
 · intro os A' L' outer' h₁ s₁ st₁ hid' E' P' zz12 hh hf S1 kk hG K1; refine xEEAAA zz12 fun i o zz13 hc hd' hr => ?_; subst zz13
   replace S1 : Sat p L' outer' h₁ s₁ st₁ (upd hid' s.heap.objs.size (.raw o)) := S1
   have ho := (S1.hidd _ _ (upd_same hid' s.heap.objs.size (HC.raw o))).1
   exact wpAny_pyNext_tuple_end hh ⟨o, ho, hc, hd'⟩ (isT (S1.sub _ _ (kk _ _ e))) (by have := drop_nil hr; simp at this ⊢; rw [r.length]; exact this) fun h' hs => ⟨rfl, (xA (S1.unhide (hf _ (.head _))) fun S2 u => (K1 _ _ (.refl _) (S2.extB (s' := { s₁ with heap := h' }) u hs rfl rfl)))⟩
theorem builtinName {M : Model} {A : Around} {E : Value → Shared → Prop} {s : Shared} {outer : List Env} {h₀ : Heap} {hid : Hid} {x : Str} {pos : Pos} {v : Value} {Q : Value → Shared → Prop} (hA : AOK n b A env outer) (S : Sat p env.locals outer h₀ s st hid)
   (e : nsIn p.K mainGlobals x = some none) (hv : bootBuiltins x = some v) (hn : x ≠ "__name__") (h : Q v s)
   (hx : env.kindOf x = some .globalImplicit) (hd : (x == ("__debug__" : Str)) = false) : wpAny M A (eval (.Name x pos) env) Q E s :=
 Name_function_global hA.kind hx (loadGlobal_builtin (hA.glob ▸ p.hT.g.keeps (S.base.trans S.sub)) (mg_none_of p.hK p.hT.g e) (hA.bi ▸ p.hT.b.keeps (S.base.trans S.sub)) ((p.hT.builtins x hn).trans hv) h) hd
theorem EW.callT {x : Str} {T : String} {npos pos : Pos} {l : List Expr} (e : nsIn p.K mainGlobals x = some none) (hv : bootBuiltins x = some (.type T))
   (H : AW p n b env (.type T) pos l (fun as st1 => CW p n b env (.type T) as Q X st1) X st)
   (hpl : (backTo pos (starEach l env)).any (·.1) = false := by rfl)
   (hx : env.kindOf x = some .globalImplicit := by rfl) (hn : x ≠ "__name__" := by decide +kernel) (hd : (x == ("__debug__" : Str)) = false := by decide +kernel) : EW p n b env (.Call (.Name x npos) l [] pos) Q X st :=
 GW.mk fun _ _ _ _ _ hA S => by
   refine wpAny_Call_Name_kw (builtinName hA S e hv hn (PyProof.Rows.callWith_type hpl (H.use hA S (.refl _) fun ar s2 h2 as st2 k2 _ S2 ha H2 => ?_)) hx hd)
   obtain ⟨ap, ak⟩ := ar
   refine xA ha fun ha1 ha2 => ?_
   obtain rfl : ak = [] := ha2
   exact GF.at (f := fun vs => call (.type T) vs) (v := ap) H2 hA S2 ha1 k2
theorem EW.callB {x : Str} {T : String} {npos pos : Pos} {l : List Expr} (e : nsIn p.K mainGlobals x = some none) (hv : bootBuiltins x = some (.builtin T))
   (H : AW p n b env (.builtin T) pos l (fun as st1 => CW p n b env (.builtin T) as Q X st1) X st)
   (hpl : (backTo pos (starEach l env)).any (·.1) = false := by rfl)
   (hx : env.kindOf x = some .globalImplicit := by rfl) (hn : x ≠ "__name__" := by decide +kernel) (hd : (x == ("__debug__" : Str)) = false := by decide +kernel) : EW p n b env (.Call (.Name x npos) l [] pos) Q X st :=
 GW.mk fun _ _ _ _ _ hA S => by
   refine wpAny_Call_Name_kw (builtinName hA S e hv hn (callWith_builtin hpl (H.use hA S (.refl _) fun ar s2 h2 as st2 k2 _ S2 ha H2 => ?_)) hx hd)
   obtain ⟨ap, ak⟩ := ar
   refine xA ha fun ha1 ha2 => ?_
   obtain rfl : ak = [] := ha2
   exact GF.at (f := fun vs => call (.builtin T) vs) (v := ap) H2 hA S2 ha1 k2
end
section
variable {L : Addr} {outer : List Env} {h₀ h₁ : Heap} {s s' : Shared} {hid hd : Hid} {I1 I2 : Addr} {o1 o2 o1' o2' : Obj}
theorem unt_upd {a c : Addr} {o : Obj} (u : Unt h₀ L st hid a) (h : a ≠ c) : Unt h₀ L st (upd hid c (.raw o)) a := by
 exact xAA (priv_false.mp u.2) fun v1 v2 v3 => ⟨u.1, priv_false.mpr ⟨v1, v2, by rw [upd_ne _ _ h]; exact v3⟩⟩
theorem Sat.two (S : Sat p L outer h₀ s st (upd (upd hid I1 (.raw o1)) I2 (.raw o2))) (n1 : hid I1 = none) (n2 : hid I2 = none) (ne : I2 ≠ I1)
   (k : ∀ b o, b ≠ I2 → b ≠ I1 → s.heap.get? b = some o → s'.heap.get? b = some o) (e1 : s'.heap.get? I1 = some o1') (e2 : s'.heap.get? I2 = some o2') (ho : s'.os = s.os) (hg : s'.gens = s.gens) :
   Sat p L outer h₀ s' st (upd (upd hid I1 (.raw o1')) I2 (.raw o2')) := by
 refine xA (S.unhide (by rw [upd_ne _ _ ne]; exact n2)) fun S1 u2 => (xA (S1.unhide n1) fun S2 u1 => ?_)
 have u2' : Unt h₀ L st hid I2 := ⟨u2.1, priv_ext ((Ext.refl hid).upd n1) u2.2⟩
 have S3 : Sat p L outer h₀ s' st hid := S2.agree (fun b o q nu => k b o (fun z => nu (z ▸ u2')) (fun z => nu (z ▸ u1)) q) ho hg
 exact (S3.hide u1 e1).hide (unt_upd u2' ne) e2
theorem Sat.drop2 (S : Sat p L outer h₀ s st (upd (upd hid I1 (.raw o1)) I2 (.raw o2))) (n1 : hid I1 = none) (n2 : hid I2 = none) (ne : I2 ≠ I1) : Sat p L outer h₀ s st hid ∧ Unt h₀ L st hid I1 ∧ Unt h₀ L st hid I2 := by
 exact xA (S.unhide (by rw [upd_ne _ _ ne]; exact n2)) fun S1 u2 => (xA (S1.unhide n1) fun S2 u1 => ⟨S2, u1, u2.1, priv_ext ((Ext.refl hid).upd n1) u2.2⟩)
theorem unt_ge (S : Sat p L outer h₀ s st hid) {a : Addr} (h : s.heap.objs.size ≤ a) : Unt h₀ L st hid a := by
 constructor
 · cases q : h₀.get? a with
   | none => rfl
   | some o => exact absurd (Heap.lt_size (S.sub _ _ q)) (Nat.not_lt.mpr h)
 · cases q : priv L st hid a with
   | false => rfl
   | true => exact absurd (S.privLt q) (Nat.not_lt.mpr h)
noncomputable def enumA : Int → List AV → List AV
 | _, [] => []
 | i, v :: r => .tup [.int i, v] :: enumA (i + 1) r
noncomputable abbrev enumO (it : Addr) (i : Int) (old : Value) : Obj := { cls := .type "enumerate", dict := none, data := .fields #[.none, .bool false, .ref it, rawInt i, .none, old], slots := #[] }
theorem ItE.enum {elts : List Expr} {x1 : Nat} {tp npos pos : Pos} {e : Expr} {Q : List AV → ((Addr → Option AObj) → Prop) → St → Prop} (hk : nsIn p.K mainGlobals (Str.ofString "enumerate") = some none)
   (H : EW p n b env e (fun a st1 => ∃ l, IsL st1.σ a l ∧ Q (enumA 0 l) (fun σ => IsL σ a l) st1) X st)
   (hs : backTo pos (starEach [e] env) = [(false, eval e env)] := by rfl)
   (hx : env.kindOf (Str.ofString "enumerate") = some .globalImplicit := by rfl) : ItE p n b env (.Tuple elts x1 tp) (.Call (.Name (Str.ofString "enumerate") npos) [e] [] pos) Q X st := by
 intro A outer h₀ s hid P hA S K
 refine wpAny_Call_Name_kw (builtinName hA S hk boot_enumerate (by decide +kernel) ?_ hx (by decide +kernel))
 rw [hs]
 refine PyProof.Rows.callWith_type rfl (evalArgs_plain (spliced_cons (H.use hA S (.refl _) fun v s1 h1 a st1 k1 _ S1 hv zy1 => xEA zy1 fun l hl hQ => spliced_nil ?_)))
 refine xEEEAA (hl.at S1 hv) fun y vs k zz1 e1 r => ?_; subst zz1
 show wpAny _ _ (call (.type "enumerate") [.ref y]) _ _ s1
 refine call_enumerate_list (lst_is e1) fun h' he hit hsz hk' => (wpAny_pyIter_enum he (xEAA hit fun o1 ho1 hc1 hd1 => ?_))
 have S2 : Sat p env.locals outer h1 { s1 with heap := h' } st1 hid := S1.grow hk' rfl S1.gens
 have un1 := unt_ge S1 (Nat.le_refl s1.heap.objs.size)
 have un2 := unt_ge S1 (Nat.le_succ s1.heap.objs.size)
 have n1 := (priv_false.mp un1.2).2.2
 have n2 := (priv_false.mp un2.2).2.2
 have ne : s1.heap.objs.size + 1 ≠ s1.heap.objs.size := Nat.succ_ne_self _
 have S3 := (S2.hide un1 ho1).hide (unt_upd un2 ne) he
 refine K _ h1 (.ref (s1.heap.objs.size + 1)) [s1.heap.objs.size, s1.heap.objs.size + 1] [o1, enumO s1.heap.objs.size 0 .none] (fun rest os => ∃ (i : Nat) (o : Obj) (old : Value), os = [o, enumO s1.heap.objs.size i old] ∧ o.cls = .type "list_iterator" ∧ o.data = .fields #[.ref y, .int i 0] ∧ enumA i (l.drop i) = rest)
   (enumA 0 l) (fun σ => IsL σ a l) st1 k1 ?_ (by simpa using ⟨n1, n2⟩) rfl ⟨0, o1, .none, rfl, hc1, hd1, rfl⟩ S3 hQ
 clear n1 n2 un1 un2 S3 S2
 refine ⟨by simp, ?_, ?_, ?_⟩
 · intro v' r' os A' L' outer' h₂ s₂ st₂ hid' E' P' zz2 hh hf S4 kk hG K1; refine xEEEAAA zz2 fun i o old zz3 hc hd' hr => ?_; subst zz3
   have n1 := hf _ (.head _)
   have n2 := hf _ (.tail _ (.head _))
   replace S4 : Sat p L' outer' h₂ s₂ st₂ (upd (upd hid' s1.heap.objs.size (.raw o)) (s1.heap.objs.size + 1) (.raw (enumO s1.heap.objs.size i old))) := S4
   refine xEEEAA (hG.at S4 (hv.mono kk)) fun y' vs' k' e' e2 r2 => ?_
   cases e'
   cases hdr : l.drop i with
   | nil => rw [hdr] at hr; exact xnc hr
   | cons w t =>
     rw [hdr] at hr
     refine xA (List.cons.inj hr) fun hv' hr' => (xA (drop_cons hdr) fun hx ht => (xEA (r2.get hx) fun u hu1 hu2 => ?_))
     have hoI := (S4.hidd s1.heap.objs.size _ (by rw [upd_ne _ _ (Ne.symm ne)]; exact upd_same ..)).1
     have hoE := (S4.hidd (s1.heap.objs.size + 1) _ (upd_same ..)).1
     refine wpAny_pyNext_enum_item hoE ⟨o, hoI, hc, hd'⟩ (lst_is e2) (by simpa using hu1) ne fun h3 hout hit' htup hsz3 hk3 => ⟨_, rfl, (wpAny_letOwnedTupleGo_enum hout fun h4 he4 hs4 => (xEAA hit' fun o' ho' hc' hd'' => ?_))⟩
     have hlt : s1.heap.objs.size + 1 < s₂.heap.objs.size := Heap.lt_size hoE
     have S5 : Sat p L' outer' h₂ { s₂ with heap := h4, toks := s₂.toks + 1 } st₂ (upd (upd hid' s1.heap.objs.size (.raw o')) (s1.heap.objs.size + 1) (.raw (enumO s1.heap.objs.size ((i : Int) + 1) u))) :=
       S4.two (s' := { s₂ with heap := h4, toks := s₂.toks + 1 }) n1 n2 ne (fun a ob q1 q2 q3 => hs4.extBut a ob q1 (hk3 a ob q1 q2 q3)) ((hs4.2 _ (Ne.symm ne)).trans ho') he4 rfl rfl
     refine xA S5.refreeze fun k6 S6 => ?_
     refine K1 _ _ [o', enumO s1.heap.objs.size ((i : Int) + 1) u] _ k6 ⟨i + 1, o', u, rfl, hc', hd'', ?_⟩ S6 ?_
     · rw [ht]; exact hr'
     · rw [← hv']
       refine .tup (vs := [.int i s₂.toks, u]) (n := 0) ?_ (.cons (.int ..) (.cons (hu2.mono k6) .nil))
       rw [mask_get]
       have np : priv L' st₂ (upd (upd hid' s1.heap.objs.size (.raw o')) (s1.heap.objs.size + 1) (.raw (enumO s1.heap.objs.size ((i : Int) + 1) u))) s₂.heap.objs.size = false := by
         have un := unt_ge S4 (Nat.le_refl s₂.heap.objs.size)
         refine xAA (priv_false.mp un.2) fun q1 q2 q3 => (priv_false.mpr ⟨q1, q2, ?_⟩)
         rw [upd_ne _ _ (Nat.ne_of_gt hlt), upd_ne _ _ (Nat.ne_of_gt (Nat.lt_of_succ_lt hlt))] at q3 ⊢
         exact q3
       rw [np]
       exact (hs4.2 _ (Nat.ne_of_gt hlt)).trans htup
 · intro l' os A' L' outer' h₂ s₂ st₂ hid' E' P' zz4 hf S4 hP; refine xEEEAAA zz4 fun i o old zz5 hc hd' hr => ?_; subst zz5
   exact wpAny_pyIter_enum (S4.hidd (s1.heap.objs.size + 1) _ (upd_same (upd hid' s1.heap.objs.size (.raw o)) (s1.heap.objs.size + 1) _)).1 hP
 · intro os A' L' outer' h₂ s₂ st₂ hid' E' P' zz6 hh hf S4 kk hG K1; refine xEEEAAA zz6 fun i o old zz7 hc hd' hr => ?_; subst zz7
   have n1 := hf _ (.head _)
   have n2 := hf _ (.tail _ (.head _))
   replace S4 : Sat p L' outer' h₂ s₂ st₂ (upd (upd hid' s1.heap.objs.size (.raw o)) (s1.heap.objs.size + 1) (.raw (enumO s1.heap.objs.size i old))) := S4
   refine xEEEAA (hG.at S4 (hv.mono kk)) fun y' vs' k' e' e2 r2 => ?_
   cases e'
   have hnil : l.drop i = [] := by
     cases hdr : l.drop i with
     | nil => rfl
     | cons w t => rw [hdr] at hr; exact xcn hr
   have hoI := (S4.hidd s1.heap.objs.size _ (by rw [upd_ne _ _ (Ne.symm ne)]; exact upd_same ..)).1
   have hoE := (S4.hidd (s1.heap.objs.size + 1) _ (upd_same ..)).1
   exact wpAny_pyNext_enum_end hh hoE ⟨o, hoI, hc, hd'⟩ (lst_is e2) (by have := drop_nil hnil; simp at this ⊢; rw [r2.length]; exact this) fun h' hs => ⟨rfl, (xAA (S4.drop2 n1 n2 ne) fun S5 u1 _ => (K1 _ _ (.refl _) (S5.extB (s' := { s₂ with heap := h' }) u1 hs rfl rfl)))⟩
noncomputable def rangeA : Int → Nat → List AV
 | _, 0 => []
 | i, k + 1 => .int i :: rangeA (i + 1) k
theorem ItE.range {target : Expr} {npos pos : Pos} {e : Expr} {Q : List AV → ((Addr → Option AObj) → Prop) → St → Prop} (hk : nsIn p.K mainGlobals (Str.ofString "range") = some none)
   (H : EW p n b env e (fun a st1 => ∃ k : Nat, a = .int k ∧ k < 2 ^ 60 ∧ Q (rangeA 0 k) (fun _ => True) st1) X st)
   (hs : backTo pos (starEach [e] env) = [(false, eval e env)] := by rfl)
   (hx : env.kindOf (Str.ofString "range") = some .globalImplicit := by rfl) : ItE p n b env target (.Call (.Name (Str.ofString "range") npos) [e] [] pos) Q X st := by
 intro A outer h₀ s hid P hA S K
 refine wpAny_Call_Name_kw (builtinName hA S hk boot_range (by decide +kernel) ?_ hx (by decide +kernel))
 rw [hs]
 refine PyProof.Rows.callWith_type rfl (evalArgs_plain (spliced_cons (H.use hA S (.refl _) fun v s1 h1 a st1 k1 _ S1 hv zy2 => xEAA zy2 fun k hak hkk hQ => spliced_nil ?_)))
 subst hak
 apply VR.onInt hv; intro t
 show wpAny _ _ (call (.type "range") [.int k t]) _ _ s1
 refine call_range_1 ?_
 have S2 : Sat p env.locals outer h1 { s1 with heap := s1.heap.push { cls := .type "range", data := .fields #[.int 0 s1.toks, .int k t, .int 1 (s1.toks + 1)] }, toks := s1.toks + 1 + 1 } st1 hid := S1.grow (Sub.push _ _) rfl S1.gens
 refine wpAny_pyIter_range (IsRange.new ..) (small_one (by decide) (by decide) (by lia) (by lia)) ?_
 have hrs : Builtin.Range.rangeSize 0 (k : Int) 1 = (k : Int) := by rw [rangeSize_one]; split <;> lia
 rw [hrs]
 refine xA (S2.pushH (s' := { s1 with heap := (s1.heap.push { cls := .type "range", data := .fields #[.int 0 s1.toks, .int k t, .int 1 (s1.toks + 1)] }).push { cls := .type "range_iterator", data := .fields #[rawInt 0, rawInt k, rawInt 1] }, toks := s1.toks + 1 + 1 }) (o := { cls := .type "range_iterator", data := .fields #[rawInt 0, rawInt k, rawInt 1] }) rfl rfl rfl rfl) fun hno S3 => ?_
 have hz : (s1.heap.push { cls := .type "range", data := .fields #[.int 0 s1.toks, .int k t, .int 1 (s1.toks + 1)] }).objs.size = s1.heap.objs.size + 1 := Heap.size_push ..
 replace hno : hid (s1.heap.push { cls := .type "range", data := .fields #[.int 0 s1.toks, .int k t, .int 1 (s1.toks + 1)] }).objs.size = none := hno
 generalize (s1.heap.push { cls := .type "range", data := .fields #[.int 0 s1.toks, .int k t, .int 1 (s1.toks + 1)] }).objs.size = I at hno S3 ⊢
 refine K _ h1 (.ref I) [I] [{ cls := .type "range_iterator", data := .fields #[rawInt 0, rawInt k, rawInt 1] }] (fun rest os => ∃ (i : Int) (m : Nat), os = [{ cls := .type "range_iterator", data := .fields #[rawInt i, rawInt m, rawInt 1] }] ∧ rangeA i m = rest)
   (rangeA 0 k) (fun _ => True) st1 k1 ?_ (by simpa using hno) rfl ⟨0, k, rfl, rfl⟩ S3 hQ
 clear hno S3
 refine ⟨by simp, ?_, ?_, ?_⟩
 · intro v' r' os A' L' outer' h₂ s₂ st₂ hid' E' P' zz8 hh hf S4 kk hG K1; refine xEEA zz8 fun i m zz9 hr => ?_; subst zz9
   have hno := hf _ (.head _)
   cases m with
   | zero => exact xnc hr
   | succ m =>
     refine xA (List.cons.inj hr) fun hv' hr' => ?_
     replace S4 : Sat p L' outer' h₂ s₂ st₂ (upd hid' I (.raw { cls := .type "range_iterator", data := .fields #[rawInt i, rawInt (m + 1 : Nat), rawInt 1] })) := S4
     have ho := (S4.hidd _ _ (upd_same hid' I (HC.raw { cls := .type "range_iterator", data := .fields #[rawInt i, rawInt (m + 1 : Nat), rawInt 1] }))).1
     refine wpAny_pyNext_range_item ho (by lia) fun h' hit hs => ⟨_, rfl, (letOwned_other (nm := "range_iterator") hit rfl (by decide) ?_)⟩
     have S5 := S4.setH (s' := { s₂ with heap := h', toks := s₂.toks + 1 }) (upd_same hid' I (HC.raw _)) hs hit rfl rfl
     rw [upd_upd] at S5
     rw [show ((m + 1 : Nat) : Int) - 1 = (m : Int) by lia] at S5
     exact K1 _ _ [_] _ (.refl _) ⟨i + 1, m, rfl, hr'⟩ S5 (hv' ▸ .int ..)
 · intro l' os A' L' outer' h₂ s₂ st₂ hid' E' P' zz10 hf S4 hP; refine xEEA zz10 fun i m zz11 hr => ?_; subst zz11
   exact wpAny_pyIter_rangeiter (S4.hidd I _ (upd_same hid' I _)).1 hP
 · intro os A' L' outer' h₂ s₂ st₂ hid' E' P' zz12 hh hf S4 kk hG K1; refine xEEA zz12 fun i m zz13 hr => ?_; subst zz13
   have hno := hf _ (.head _)
   cases m with
   | succ m => exact xcn hr
   | zero =>
     replace S4 : Sat p L' outer' h₂ s₂ st₂ (upd hid' I (.raw { cls := .type "range_iterator", data := .fields #[rawInt i, rawInt (0 : Nat), rawInt 1] })) := S4
     have ho := (S4.hidd _ _ (upd_same hid' I (HC.raw { cls := .type "range_iterator", data := .fields #[rawInt i, rawInt (0 : Nat), rawInt 1] }))).1
     exact wpAny_pyNext_range_end hh ho (by lia) fun h' hs => ⟨rfl, (xA (S4.unhide hno) fun S5 u1 => (K1 _ _ (.refl _) (S5.extB (s' := { s₂ with heap := h' }) u1 hs rfl rfl)))⟩
end
theorem over_upd : ∀ (as : List Addr) (os : List Obj) {hid : Hid} {a : Addr} {c : HC}, a ∉ as → upd (over hid as os) a c = over (upd hid a c) as os
 | [], _, _, _, _, _ => rfl
 | _ :: _, [], _, _, _, _ => rfl
 | b :: as, o :: os, hid, a, c, h => by
   show upd (over (upd hid b (.raw o)) as os) a c = over (upd (upd hid a c) b (.raw o)) as os
   have hab : a ≠ b := fun z => h (z ▸ .head _)
   rw [over_upd as os fun z => h (.tail _ z)]
   congr 1
   funext x
   by_cases q : x = a
   · subst q; rw [upd_same, upd_ne _ _ hab, upd_same]
   · by_cases q2 : x = b
     · subst q2; rw [upd_ne _ _ q, upd_same, upd_same]
     · rw [upd_ne _ _ q, upd_ne _ _ q2, upd_ne _ _ q2, upd_ne _ _ q]
section
variable {p : PC} {L : Addr} {outer : List Env} {h₀ h₁ : Heap} {s s' : Shared} {st : St} {hid hd : Hid}
theorem Sat.hideF (S : Sat p L outer h₀ s st hid) {a : Addr} {m : Str → Option Value} (u : Unt h₀ L st hid a) (e : s.heap.Ns a m) : Sat p L outer h₀ s st (upd hid a (.frame m)) := by
 refine xAA (priv_false.mp u.2) fun n1 n2 n3 => ?_
 refine ⟨S.base, S.sub, S.loc, S.locF, S.locS, ?_, fun b x q => ⟨(S.obj b x q).1, (S.obj b x q).2.1, ?_⟩, fun b c q => ?_, fun en he => ?_, S.os, S.gens⟩
 · rw [upd_ne _ _ (Ne.symm n1)]; exact S.locH
 · rw [upd_ne _ _ fun z => by rw [z, n2] at q; exact xns q]; exact (S.obj b x q).2.2
 · by_cases z : b = a
   · subst z
     rw [upd_same] at q
     cases Option.some.inj q
     exact ⟨e, u.1⟩
   · rw [upd_ne _ _ z] at q; exact S.hidd b c q
 · refine xAEEA (S.out en he) fun h1 L' m h2 h3 => ⟨h1, L', m, h2, ?_⟩
   rw [upd_ne _ _ fun z => by rw [z, n3] at h3; exact xns h3]; exact h3
theorem Sat.unhideF (S : Sat p L outer h₀ s st (upd hid a (.frame m))) (n : hid a = none) (out : ∀ e ∈ outer, e.scope.kind ≠ .module ∧ ∃ L' m, e.frame = some L' ∧ hid L' = some (.frame m)) : Sat p L outer h₀ s st hid ∧ Unt h₀ L st hid a := by
 refine ⟨S.drop ((Ext.refl hid).upd n) out, (S.hidd a _ (upd_same ..)).2, priv_false.mpr ⟨fun z => ?_, ?_, n⟩⟩
 · have := S.locH; rw [← z, upd_same] at this; exact xsn this
 · cases q : st.σ a with
   | none => rfl
   | some x => have := (S.obj a x q).2.2; rw [upd_same] at this; exact xsn this
end
theorem over_frame : ∀ (as : List Addr) (os : List Obj) {hid : Hid} {a : Addr} {m : Str → Option Value}, over hid as os a = some (.frame m) → hid a = some (.frame m)
 | [], _, _, _, _, e => e
 | _ :: _, [], _, _, _, e => e
 | b :: as, o :: os, hid, a, m, e => by
   have q := over_frame as os (hid := upd hid b (.raw o)) e
   by_cases z : a = b
   · subst z; rw [upd_same] at q; cases Option.some.inj q
   · rw [upd_ne _ _ z] at q; exact q
theorem Sat.leaveG {p : PC} {L L' : Addr} {outer outer' : List Env} {h₀ h₁ : Heap} {s' : Shared} {st' : St} {hid : Hid} {m : Str → Option Value} {ρ : String → Option AV} (hLh : hid L = none) (k : Sub h₀ h₁) (hv : ∀ x av, ρ x = some av → ∃ v, m (Str.ofString x) = some v ∧ VR h₀ av v)
   (out : ∀ e ∈ outer, e.scope.kind ≠ .module ∧ ∃ L' m, e.frame = some L' ∧ hid L' = some (.frame m)) (S' : Sat p L' outer' h₁ s' st' (upd hid L (.frame m))) : Sat p L outer h₁ s' ⟨ρ, st'.σ⟩ hid := by
 have hL := S'.hidd L (.frame m) (upd_same ..)
 have hne : ∀ a c, hid a = some c → a ≠ L := fun a c e q => by rw [q, hLh] at e; exact xns e
 refine ⟨S'.base, S'.sub, ⟨m, hL.1, fun x av e => let ⟨v, e1, e2⟩ := hv x av e; ⟨v, e1, e2.mono k⟩⟩, hL.2, ?_, hLh, fun a o e => ⟨(S'.obj a o e).1, (S'.obj a o e).2.1, ?_⟩, fun a c e => S'.hidd a c (by rw [upd_ne _ _ (hne a c e)]; exact e), out, S'.os, S'.gens⟩
 · cases q : st'.σ L with
   | none => rfl
   | some o => have := (S'.obj L o q).2.2; rw [upd_same] at this; exact xsn this
 · cases q : hid a with
   | none => rfl
   | some c => have := (S'.obj a o e).2.2; rw [upd_ne _ _ (hne a c q), q] at this; exact xsn this
theorem append_raw {prog : Program} {w : World} {A : Around} {E : Value → Shared → Prop} {s : Shared} {l : Addr} {vs : List Value} {k : Nat} {x : Value} {Q : Value → Shared → Prop} (hl : s.heap.get? l = some (lstObj vs k)) (hsz : vs.length ≤ 16777216)
   (hQ : ∀ k' h', h'.get? l = some (lstObj (vs ++ [x]) k') → Heap.SameBut l s.heap h' → Q .none { s with heap := h' }) : wpAny (model prog w) A (call (.builtin "list.append") [.ref l, x]) Q E s :=
 wpAny_list_append_plain ⟨k, hl⟩ (fun h' zy1 hs => xE zy1 fun k' e => hQ k' h' (by simpa using e) hs) (by rw [List.size_toArray, sizeLine_val]; exact hsz)
noncomputable def TestsW (p : PC) (n : Nat) (env : Env) : List Expr → (Bool → St → Prop) → St → Prop
 | [], Q, st => Q true st
 | c :: r, Q, st => TW p n .comp env c (fun x st1 => if x then TestsW p n env r Q st1 else Q false st1) (fun _ _ => False) st
inductive ElemsW (E : AV → Option AV → Prop) : List AV → List (Option AV) → Prop
 | nil : ElemsW E [] []
 | cons {v : AV} {l : List AV} {r : Option AV} {rs : List (Option AV)} : E v r → ElemsW E l rs → ElemsW E (v :: l) (r :: rs)
theorem EP.never {p : PC} {L : Addr} {outer : List Env} {h₀ : Heap} {hid : Hid} {x : Value} {s : Shared} (h : EP p L outer h₀ hid (fun _ _ => False) x s) : False := h.elim fun _ h => h.elim fun _ h => h.elim fun _ h => h.2.2.2
section
variable {p : PC} {n : Nat} {b : Mode} {env : Env} {X : Value → St → Prop} {st : St} {A : Around} {outer : List Env} {h₀ : Heap} {s : Shared} {hid : Hid}
theorem tests_wp {R : Result → Shared → Prop} {E : Value → Shared → Prop} {P : Bool → Shared → Prop} (hA : AOK n .comp A env outer) : ∀ (ifs : List Expr) {Q : Bool → St → Prop} {st : St} {s : Shared} {h₁ : Heap}, TestsW p n env ifs Q st → Sat p env.locals outer h₁ s st hid →
   (∀ c s' h₂ st', Sub h₁ h₂ → Sat p env.locals outer h₂ s' st' hid → Q c st' → P c s') →
   wpAny (model p.prog p.w) A (forIn ifs true fun c r => if r = true then do let ok ← isTrue c env (eval c env); pure (ForInStep.yield ok) else pure (ForInStep.yield r)) P E s := by
 have stay : ∀ (l : List Expr) {s : Shared} {P : Bool → Shared → Prop}, P false s → wpAny (model p.prog p.w) A (forIn l false fun c r => if r = true then do let ok ← isTrue c env (eval c env); pure (ForInStep.yield ok) else pure (ForInStep.yield r)) P E s := by
   intro l
   induction l with
   | nil => intro s P h; exact wpAny_pure h
   | cons c r ih =>
     intro s P h
     rw [List.forIn_cons]
     simp only [Bool.false_eq_true, if_false]
     exact wpAny_bind (wpAny_pure (ih h))
 intro ifs
 induction ifs with
 | nil => intro Q st s h₁ H S K; exact wpAny_pure (K true s h₁ st (.refl _) S H)
 | cons c r ih =>
   intro Q st s h₁ H S K
   rw [List.forIn_cons]
   simp only [if_true]
   refine wpAny_bind (wpAny_bind (wpAny_mono (GW.run H _ _ _ _ _ hA S) (fun ok s2 z_ => z_.elim fun h2 y st2 k2 S2 r2 q2 => wpAny_pure ?_) fun _ _ e => (EP.never e).elim))
   obtain rfl : y = ok := r2
   cases y with
   | false => exact stay r (K false s2 h2 st2 k2 S2 q2)
   | true => exact ih q2 S2 fun c' s3 h3 st3 k3 S3 q3 => K c' s3 h3 st3 (k2.trans k3) S3 q3
end
section
variable {p : PC} {n : Nat} {b : Mode} {env : Env} {X : Value → St → Prop} {st : St} {A : Around} {outer : List Env} {h₀ : Heap} {s : Shared} {hid : Hid}
end
section
theorem add_int {i j : Int} (h : Q (.int (i + j)) st) : GV2 p n b env (.int i) (.int j) VR (binaryOp .Add) Q X st :=
 GV2.mk fun zw zw zw zw zw zw zw zw S hv hu => by apply VR.onInt hv; intro zt; apply VR.onInt hu; intro zt; exact wpAny_add_int (NP.mk (S.of_eq rfl rfl rfl) (.refl _) (.int ..) h)
theorem iadd_int {i j : Int} (h : Q (.int (i + j)) st) : GV2 p n b env (.int i) (.int j) VR (inplaceOp .Add) Q X st :=
 GV2.mk fun zw zw zw zw zw zw zw zw S hv hu => by apply VR.onInt hv; intro zt; apply VR.onInt hu; intro zt; exact wpAny_iadd_int (NP.mk (S.of_eq rfl rfl rfl) (.refl _) (.int ..) h)
theorem sub_int {i j : Int} (h : Q (.int (i - j)) st) : GV2 p n b env (.int i) (.int j) VR (binaryOp .Sub) Q X st :=
 GV2.mk fun zw zw zw zw zw zw zw zw S hv hu => by apply VR.onInt hv; intro zt; apply VR.onInt hu; intro zt; exact PyProof.Rows.sub_int (NP.mk (S.of_eq rfl rfl rfl) (.refl _) (.int ..) h)
theorem isub_int {i j : Int} (h : Q (.int (i - j)) st) : GV2 p n b env (.int i) (.int j) VR (inplaceOp .Sub) Q X st :=
 GV2.mk fun zw zw zw zw zw zw zw zw S hv hu => by apply VR.onInt hv; intro zt; apply VR.onInt hu; intro zt; exact PyProof.Rows.isub_int (NP.mk (S.of_eq rfl rfl rfl) (.refl _) (.int ..) h)
theorem mod_int {i j : Int} (h : Q (.int (i.fmod j)) st) (hj : j ≠ 0 := by decide) : GV2 p n b env (.int i) (.int j) VR (binaryOp .Mod) Q X st :=
 GV2.mk fun zw zw zw zw zw zw zw zw S hv hu => by apply VR.onInt hv; intro zt; apply VR.onInt hu; intro zt; exact PyProof.Rows.mod_int hj (NP.mk (S.of_eq rfl rfl rfl) (.refl _) (.int ..) h)
theorem div_int {i j : Int} (h : Q (.int (i.fdiv j)) st) (hp : Builtin.divisionGoesByPylong i j = false) (hj : j ≠ 0 := by decide) : GV2 p n b env (.int i) (.int j) VR (binaryOp .FloorDiv) Q X st :=
 GV2.mk fun zw zw zw zw zw zw zw zw S hv hu => by apply VR.onInt hv; intro zt; apply VR.onInt hu; intro zt; exact PyProof.Rows.floordiv_int hj (NP.mk (S.of_eq rfl rfl rfl) (.refl _) (.int ..) h) (.inl hp)
theorem neg_int {i : Int} (h : Q (.int (-i)) st) : GF p n b env VR (.int i) VR (unaryOp .USub) Q X st :=
 GF.mk fun zw zw zw zw zw zw zw S hv => by apply VR.onInt hv; intro zt; exact PyProof.Rows.neg_int (NP.mk (S.of_eq rfl rfl rfl) (.refl _) (.int ..) h)
theorem lt_int {i j : Int} (h : Q (.bool (decide (i < j))) st) : GV2 p n b env (.int i) (.int j) VR (compareOp .Lt) Q X st :=
 GV2.mk fun zw zw zw zw zw zw zw zw S hv hu => by apply VR.onInt hv; intro zt; apply VR.onInt hu; intro zt; exact PyProof.Rows.lt_int (NP.mk S (.refl _) (.bool ..) h)
theorem ge_int {i j : Int} (h : Q (.bool (decide (j ≤ i))) st) : GV2 p n b env (.int i) (.int j) VR (compareOp .GtE) Q X st :=
 GV2.mk fun zw zw zw zw zw zw zw zw S hv hu => by apply VR.onInt hv; intro zt; apply VR.onInt hu; intro zt; exact PyProof.Rows.ge_int (NP.mk S (.refl _) (.bool ..) h)
theorem eq_int {i j : Int} (h : Q (.bool (i == j)) st) : GV2 p n b env (.int i) (.int j) VR (compareOp .Eq) Q X st :=
 GV2.mk fun zw zw zw zw zw zw zw zw S hv hu => by apply VR.onInt hv; intro zt; apply VR.onInt hu; intro zt; exact PyProof.Rows.eq_int (NP.mk S (.refl _) (.bool ..) h)
theorem ne_int {i j : Int} (h : Q (.bool (i != j)) st) : GV2 p n b env (.int i) (.int j) VR (compareOp .NotEq) Q X st :=
 GV2.mk fun zw zw zw zw zw zw zw zw S hv hu => by apply VR.onInt hv; intro zt; apply VR.onInt hu; intro zt; exact PyProof.Rows.ne_int (NP.mk S (.refl _) (.bool ..) h)
theorem ne_bool {i j : Bool} (h : Q (.bool (i != j)) st) : GV2 p n b env (.bool i) (.bool j) VR (compareOp .NotEq) Q X st :=
 GV2.mk fun zw zw zw zw zw zw zw zw S hv hu => by apply VR.onBool hv; apply VR.onBool hu; exact PyProof.Rows.ne_bool (NP.mk S (.refl _) (.bool ..) h)
theorem add_str {x y : Str} (h : Q (.str (x ++ y)) st) (hz : x.length + y.length ≤ 16777216) : GV2 p n b env (.str x) (.str y) VR (binaryOp .Add) Q X st :=
 GV2.mk fun zw zw zw zw zw zw zw zw S hv hu => by apply VR.onStr hv; intro zt; apply VR.onStr hu; intro zt; exact PyProof.Rows.add_str (fun zw zw => NP.mk (S.of_eq rfl rfl rfl) (.refl _) (.str ..) h) (by rw [sizeLine_val]; exact hz)
theorem eq_str {x y : Str} (h : Q (.bool (x == y)) st) : GV2 p n b env (.str x) (.str y) VR (compareOp .Eq) Q X st :=
 GV2.mk fun zw zw zw zw zw zw zw zw S hv hu => by apply VR.onStr hv; intro zt; apply VR.onStr hu; intro zt; exact PyProof.Rows.eq_str (NP.mk S (.refl _) (.bool ..) h)
theorem ne_str {x y : Str} (h : Q (.bool (x != y)) st) : GV2 p n b env (.str x) (.str y) VR (compareOp .NotEq) Q X st :=
 GV2.mk fun zw zw zw zw zw zw zw zw S hv hu => by apply VR.onStr hv; intro zt; apply VR.onStr hu; intro zt; exact PyProof.Rows.ne_str (NP.mk S (.refl _) (.bool ..) h)
theorem VR.ne_none {h : Heap} {a : AV} {v : Value} (x : VR h a v) (ha : a ≠ .none) : v ≠ .none := by cases x <;> first | exact (ha rfl).elim | (intro z; cases z)
theorem is_none_t (h : Q (.bool true) st) : GV2 p n b env .none .none VR (compareOp .Is) Q X st :=
 GV2.mk fun zw zw zw zw zw zw zw zw S hv hu => by apply VR.onNone hv; apply VR.onNone hu; exact is_none (NP.mk S (.refl _) (.bool ..) h)
theorem is_none_f {a : AV} (ha : a ≠ .none) (h : Q (.bool false) st) : GV2 p n b env a .none VR (compareOp .Is) Q X st :=
 GV2.mk fun zw zw zw zw zw zw zw zw S hv hu => by apply VR.onNone hu; exact is_none_ne (hv.ne_none ha) (NP.mk S (.refl _) (.bool ..) h)
theorem isnot_none_f (h : Q (.bool false) st) : GV2 p n b env .none .none VR (compareOp .IsNot) Q X st :=
 GV2.mk fun zw zw zw zw zw zw zw zw S hv hu => by apply VR.onNone hv; apply VR.onNone hu; exact wpAny_isNot_self rfl (NP.mk S (.refl _) (.bool ..) h)
mutual
noncomputable def toD : AV → PyData
 | .none => .none
 | .bool b => .bool b
 | .int i => .int i
 | .str x => .str x
 | .ref _ => .none
 | .tup l => .tuple (toDs l)
 | .lst l => .list (toDs l)
noncomputable def toDs : List AV → List PyData
 | [] => []
 | a :: l => toD a :: toDs l
end
mutual
noncomputable def noRef : AV → Bool
 | .ref _ => false
 | .none | .bool _ | .int _ | .str _ => true
 | .tup l | .lst l => noRefs l
noncomputable def noRefs : List AV → Bool
 | [] => true
 | a :: l => noRef a && noRefs l
end
mutual
theorem VR.reads {h : Heap} : ∀ {a : AV} {v : Value}, VR h a v → noRef a = true → ∃ as, Reads h v (toD a) as
 | _, _, .none, _ => ⟨_, .none⟩
 | _, _, .bool b, _ => ⟨_, .bool b⟩
 | _, _, .int i t, _ => ⟨_, .int i t⟩
 | _, _, .str x t, _ => ⟨_, .str x t⟩
 | _, _, .ref a, e => by exact xft e
 | _, _, .tup e r, q => let ⟨_, z⟩ := VRs.reads r q; ⟨_, .tuple e rfl rfl z⟩
 | _, _, .lst e r, q => let ⟨_, z⟩ := VRs.reads r q; ⟨_, .list e rfl rfl z⟩
theorem VRs.reads {h : Heap} : ∀ {l : List AV} {vs : List Value}, VRs h l vs → noRefs l = true → ∃ as, ReadsAll h vs (toDs l) as
 | _, _, .nil, _ => ⟨_, .nil⟩
 | _, _, .cons a r, q => by
   have q' := Bool.and_eq_true_iff.mp q
   exact xE (VR.reads a q'.1) fun zw z => (xE (VRs.reads r q'.2) fun zw z' => ⟨_, .cons z z'⟩)
end
noncomputable def Dat (a : AV) : Prop := noRef a = true ∧ (toD a).canLay0 = true ∧ (toD a).depth ≤ 50
theorem eq_data {a c : AV} (ha : Dat a) (hc : Dat c) (h : Q (.bool (PyData.eqv (toD a) (toD c))) st) : GV2 p n b env a c VR (compareOp .Eq) Q X st :=
 GV2.mk fun zw zw zw zw zw zw zw hA S hv hu => by
   exact xE ((hv.mono S.sub).reads ha.1) fun zw r1 => (xE ((hu.mono S.sub).reads hc.1) fun zw r2 => (SeqAt.compareEq_reads r1 r2 ha.2.1 hc.2.1 (by have := hA.units; have := ha.2.2; show _ < 9900; lia) (NP.mk S (.refl _) (.bool ..) h)))
theorem ne_data {a c : AV} (ha : Dat a) (hc : Dat c) (h : Q (.bool (!PyData.eqv (toD a) (toD c))) st) : GV2 p n b env a c VR (compareOp .NotEq) Q X st :=
 GV2.mk fun zw zw zw zw zw zw zw hA S hv hu => by
   exact xE ((hv.mono S.sub).reads ha.1) fun zw r1 => (xE ((hu.mono S.sub).reads hc.1) fun zw r2 => (SeqAt.compareNe_reads r1 r2 ha.2.1 hc.2.1 (by have := hA.units; have := ha.2.2; show _ < 9900; lia) (NP.mk S (.refl _) (.bool ..) h)))
theorem in_list {a : AV} {l : List AV} (ha : Dat a) (hc : Dat (.lst l)) (h : Q (.bool ((toDs l).any fun y => PyData.eqv y (toD a))) st) : GV2 p n b env a (.lst l) VR (compareOp .In) Q X st :=
 GV2.mk fun zw zw zw zw zw zw zw hA S hv hu => by
   exact xE ((hv.mono S.sub).reads ha.1) fun zw r1 => (xE ((hu.mono S.sub).reads hc.1) fun zw r2 => (SeqAt.in_list_reads r2 r1 hc.2.1 ha.2.1 (by have := hA.units; have := ha.2.2; show _ < 9900; lia) (NP.mk S (.refl _) (.bool ..) h)))
theorem in_tup {a : AV} {l : List AV} (ha : Dat a) (hc : Dat (.tup l)) (h : Q (.bool ((toDs l).any fun y => PyData.eqv y (toD a))) st) : GV2 p n b env a (.tup l) VR (compareOp .In) Q X st :=
 GV2.mk fun zw zw zw zw zw zw zw hA S hv hu => by
   exact xE ((hv.mono S.sub).reads ha.1) fun zw r1 => (xE ((hu.mono S.sub).reads hc.1) fun zw r2 => (SeqAt.in_tuple_reads r2 r1 hc.2.1 ha.2.1 (by have := hA.units; have := ha.2.2; show _ < 9900; lia) (NP.mk S (.refl _) (.bool ..) h)))
theorem add_lists {a c : AV} {l m : List AV} (hl : IsL st.σ a l) (hm : IsL st.σ c m) (h : Q (.lst (l ++ m)) st) (hz : l.length + m.length ≤ 16777216) : GV2 p n b env a c VR (binaryOp .Add) Q X st :=
 GV2.mk fun zw zw zw s zw zw zw zw S hv hu => by
   refine xEEEAA (hl.at S hv) fun y vs k zz1 e r => ?_; subst zz1
   refine xEEEAA (hm.at S hu) fun y' vs' k' zz2 e' r' => ?_; subst zz2
   refine P.add_list e e' ?_ (by rw [List.size_toArray, List.size_toArray, r.length, r'.length, sizeLine_val]; exact hz)
   rw [List.append_toArray]
   exact xEAA (S.pushF (s' := { s with heap := s.heap.push (lstObj (vs ++ vs') 0) }) (lstObj (vs ++ vs') 0) rfl rfl rfl rfl) fun h₁ k1 S' e1 => (NP.mk S' k1 (.lst e1 ((r.append r').mono k1)) h)
theorem truthy_list {a : AV} {l : List AV} {Q : Bool → St → Prop} (hl : IsL st.σ a l) (h : Q (!l.isEmpty) st) (hz : l.length ≤ 16777216) : GF p n b env VR a BR truthy Q X st :=
 GF.mk fun zw zw zw zw zw zw zw S hv => by
   refine xEEEAA (hl.at S hv) fun y vs k zz3 e r => ?_; subst zz3
   refine wpAny_truthy_list (lst_is e) (by rw [List.size_toArray, r.length]; lia) (NP.mk (S.of_eq rfl rfl rfl) (.refl _) ?_ h)
   have := r.length
   cases l <;> cases vs <;> simp_all
theorem truthy_none {Q : Bool → St → Prop} (h : Q false st) : GF p n b env VR .none BR truthy Q X st :=
 GF.mk fun zw zw zw zw zw zw zw S hv => by apply VR.onNone hv; exact PyProof.Rows.truthy_none (NP.mk S (.refl _) rfl h)
theorem VRs.one {h : Heap} {a : AV} {vs : List Value} (x : VRs h [a] vs) : ∃ v, vs = [v] ∧ VR h a v := by
 apply VRs.onCons x; intro zv zvs p q; apply VRs.onNil q; exact ⟨_, rfl, p⟩
theorem VRs.two {h : Heap} {a c : AV} {vs : List Value} (x : VRs h [a, c] vs) : ∃ v u, vs = [v, u] ∧ VR h a v ∧ VR h c u := by
 apply VRs.onCons x; intro zv zvs p q
 refine xEA q.one fun u zz4 r => ?_; subst zz4
 exact ⟨_, u, rfl, p, r⟩
theorem call_len {a : AV} {l : List AV} (hl : IsL st.σ a l) (h : Q (.int l.length) st) (hz : l.length ≤ 16777216) : CW p n b env (.builtin "len") [a] Q X st :=
 GF.mk fun zw zw zw zw zw zw zw S hv => by
   refine xEA hv.one fun v zz5 hv1 => ?_; subst zz5
   refine xEEEAA (hl.at S hv1) fun y vs k zz6 e r => ?_; subst zz6
   refine call_len_list (lst_is e) (by rw [List.size_toArray, r.length]; lia) (NP.mk (S.of_eq rfl rfl rfl) (.refl _) ?_ h)
   rw [List.size_toArray, r.length]; exact .int ..
theorem call_max {i j : Int} (h : Q (.int (if j > i then j else i)) st) (hb : b ≠ .handler) : CW p n b env (.builtin "max") [.int i, .int j] Q X st :=
 GF.mk fun zw zw zw zw zw zw hA S hv => by
   refine xEEAA hv.two fun v u zz7 hv1 hu => ?_; subst zz7
   apply VR.onInt hv1; intro zt; apply VR.onInt hu; intro zt
   refine max_two_ints (hA.handled hb) fun h' tk kk => NP.mk (S.grow kk rfl S.gens) (.refl _) ?_ h
   split <;> exact .int ..
theorem call_str_int {i : Int} (h : Q (.str (Str.ofString (toString i))) st) (hi : i.natAbs.log2 < 1920) : CW p n b env (.type "str") [.int i] Q X st :=
 GF.mk fun zw zw zw zw zw zw zw S hv => by
   refine xEA hv.one fun v zz9 hv1 => ?_; subst zz9
   apply VR.onInt hv1; intro zt
   exact P.str_of_int hi (NP.mk (S.of_eq rfl rfl rfl) (.refl _) (.str ..) h)
theorem call_int_int' {i : Int} (h : Q (.int i) st) : CW p n b env (.type "int") [.int i] Q X st :=
 GF.mk fun zw zw zw zw zw zw zw S hv => by
   refine xEA hv.one fun v zz10 hv1 => ?_; subst zz10
   apply VR.onInt hv1; intro zt
   exact PySem.call_int_int (NP.mk S (.refl _) (.int ..) h)
theorem call_tuple {a : AV} {l : List AV} (hl : IsL st.σ a l) (h : Q (.tup l) st) (hz : l.length ≤ 16777216) : CW p n b env (.type "tuple") [a] Q X st :=
 GF.mk fun zw zw zw s zw zw zw S hv => by
   refine xEA hv.one fun v zz17 hv1 => ?_; subst zz17
   refine xEEEAA (hl.at S hv1) fun y vs k zz18 e r => ?_; subst zz18
   refine call_tuple_list (lst_is e) (fun h' kk => ?_) (by rw [List.size_toArray, r.length, sizeLine_val]; exact hz)
   have S1 := S.grow (s' := { s with heap := h' }) kk rfl S.gens
   exact xEAA (S1.pushF (s' := { s with heap := h'.push (tupObj vs 0) }) (tupObj vs 0) rfl rfl rfl rfl) fun h₁ k1 S' e1 => (NP.mk S' k1 (.tup e1 (r.mono k1)) h)
end
section
noncomputable abbrev AsW (p : PC) (n : Nat) (b : Mode) (env : Env) (target : Expr) (a : AV) (Q : Unit → St → Prop) (X : Value → St → Prop) (st : St) : Prop := GF p n b env VR a UR (assign target env) Q X st
theorem AsW.name {x : String} {pos : Pos} {a : AV} {Q : Unit → St → Prop} (h : Q () (st.set x a)) (hl : env.kindOf (Str.ofString x) = some .local := by rfl) : AsW p n b env (.Name (Str.ofString x) pos) a Q X st :=
 GF.mk fun _ _ _ _ _ _ hA S hv => wpAny_assign_Name (GF.at (f := fun v => storeName env (Str.ofString x) v) (storeW h hl) hA S hv (.refl _))
noncomputable def AsWs (p : PC) (n : Nat) (b : Mode) (env : Env) (X : Value → St → Prop) : List Expr → List AV → (Unit → St → Prop) → St → Prop
 | t :: ts, a :: as, Q, st => AsW p n b env t a (fun _ st1 => AsWs p n b env X ts as Q st1) X st
 | [], [], Q, st => Q () st
 | _, _, _, _ => False
theorem inOrder {A : Around} {outer : List Env} {hid : Hid} {h₀ : Heap} (hA : AOK n b A env outer) : ∀ (ts : List Expr) (as : List AV) (vs : List Value) {Q : Unit → St → Prop} {st : St} {s : Shared} {h₁ : Heap}, AsWs p n b env X ts as Q st → Sat p env.locals outer h₁ s st hid → VRs h₁ as vs → Sub h₀ h₁ →
   wpAny (model p.prog p.w) A (assignInOrder (ts.map (fun t v => assign t env v)) vs) (NP p env.locals outer h₀ hid UR Q) (EP p env.locals outer h₀ hid X) s := by
 intro ts
 induction ts with
 | nil =>
   intro as vs Q st s h₁ H S hv k
   cases as with
   | nil => apply VRs.onNil hv; exact wpAny_pure (NP.mk S k trivial H)
   | cons a r => exact H.elim
 | cons t ts ih =>
   intro as vs Q st s h₁ H S hv k
   cases as with
   | nil => exact H.elim
   | cons a as =>
     apply VRs.onCons hv; intro zv zvs p q
     show wpAny _ _ (assignInOrder ((fun v => assign t env v) :: ts.map (fun t v => assign t env v)) (_ :: _)) _ _ _
     rw [assignInOrder]
     refine wpAny_bind (wpAny_holding (wpAny_mono (GF.run H _ _ _ _ _ _ hA S p) (fun _ s2 z_ => z_.elim fun h2 _ st2 k2 S2 _ q2 => ih as _ q2 S2 (q.mono k2) (k.trans k2)) fun _ _ e => EP.mono k (fun _ _ z => z) e))
set_option tactic.hygienic true in
theorem AsW.tup {elts : List Expr} {k : Nat} {pos : Pos} {l : List AV} {Q : Unit → St → Prop} (hb : b ≠ .handler) (H : AsWs p n b env X elts l Q st) (hlen : elts.length = l.length := by rfl)
   (hn : (assignEach elts env).length = elts.length := by rfl) (hm : (assignEach elts env).map (·.2) = elts.map (fun t v => assign t env v) := by rfl) (hstar : (assignEach elts env).findIdx? (·.1) = none := by rfl) : AsW p n b env (.Tuple elts k pos) (.tup l) Q X st := by
 refine GF.mk fun A outer h₀ s hid v hA S hv => ?_
 apply VR.onTup hv; intro y vs k' e r
 refine assign_Tuple_tuple (hA.handled hb) (tup_is (S.sub _ _ e)) (by rw [hn, List.size_toArray, r.length, hlen]) hstar fun h' he => ?_
 rw [hm]
 have u := unt_ge S (Nat.le_refl s.heap.objs.size)
 exact inOrder hA elts l vs H (S.extB (s' := { s with heap := h' }) u he rfl rfl) r (.refl _)
theorem XW.assignT {elts : List Expr} {k : Nat} {tpos pos : Pos} {e : Expr} {Q : AF → St → Prop} (H : EW p n b env e (fun a st1 => AsW p n b env (.Tuple elts k tpos) a (fun _ st2 => Q .next st2) X st1) X st)
   (hs : swapsWithSole [.Tuple elts k tpos] e pos.line env = pure false := by rfl) (hw : swappedStores [.Tuple elts k tpos] e env = pure none := by rfl) : XW p n b env (.Assign [.Tuple elts k tpos] e pos) Q X st :=
 GW.mk fun _ _ _ _ _ hA S => Assign_Tuple (H.use hA S (.refl _) fun _ _ _ _ _ k1 _ S1 hv H1 => wpAny_mono (GF.at H1 hA S1 hv k1) (fun _ _ z_ => z_.elim fun h2 _ st2 k2 S2 _ q => NP.mk S2 k2 .next q) fun _ _ e => e) hs hw
noncomputable def MW (p : PC) (n : Nat) (b : Mode) (env : Env) (a : AV) (name : Str) (pos : Pos) (args : List Expr) (Q : AV → St → Prop) (X : Value → St → Prop) (st : St) : Prop :=
 ∀ A outer h₀ s hid v (pl : Sem Bool), AOK n b A env outer → Sat p env.locals outer h₀ s st hid → VR h₀ a v →
   wpAny (model p.prog p.w) A (getMethod v name pl) (fun fx s₂ => wpAny (model p.prog p.w) A (callWith pos fx.1 fx.2 (backTo pos (starEach args env)) []) (NP p env.locals outer h₀ hid VR Q) (EP p env.locals outer h₀ hid X) s₂) (EP p env.locals outer h₀ hid X) s
theorem EW.callM {o : Expr} {name : Str} {apos pos : Pos} {args : List Expr} {pl : Sem Bool} (H : EW p n b env o (fun a st1 => MW p n b env a name pos args Q X st1) X st)
   (he : eval (.Call (.Attribute o name apos) args [] pos) env = (do
     let ov ← eval o env
     standAt apos.atName
     let (f, first) ← holding [ov] (getMethod ov name pl)
     callWith pos f first (backTo pos (starEach args env)) []) := by rfl) : EW p n b env (.Call (.Attribute o name apos) args [] pos) Q X st :=
 GW.mk fun _ _ _ _ _ hA S => by
   rw [he]
   exact wpAny_bind (H.use hA S (.refl _) fun v s1 h1 a st1 k1 _ S1 hv H1 => wpAny_bind (wpAny_standAt (wpAny_bind (wpAny_holding (wpAny_mono (H1 _ _ _ _ _ _ pl hA S1 hv) (fun fx s2 h2 => (wpAny_mono h2 (fun _ _ z_ => z_.elim fun h3 y st3 k3 S3 r q => ⟨h3, y, st3, k1.trans k3, S3, r, q⟩) fun _ _ e => EP.mono k1 (fun _ _ z => z) e)) fun _ _ e => EP.mono k1 (fun _ _ z => z) e)))))
noncomputable def RecvT (p : PC) (st : St) (a : AV) (T : String) : Prop := ∀ L outer h₀ s hid v, Sat p L outer h₀ s st hid → VR h₀ a v → s.TypeIs v T ∧ ∀ x, v = .ref x → ∃ ob, s.heap.get? x = some ob ∧ ob.dict = none
theorem MW.builtin {a : AV} {T : String} {name : Str} {id : String} {pos : Pos} {args : List Expr} (hr : RecvT p st a T) (pa : PlainAttrs T) (slot : Slot T name id) (hty : typeOf (.builtin id) = pure (.type "method_descriptor"))
   (H : AW p n b env (.builtin id) pos args (fun as st1 => CW p n b env (.builtin id) (a :: as) Q X st1) X st) (hpl : (backTo pos (starEach args env)).any (·.1) = false := by rfl) : MW p n b env a name pos args Q X st :=
 fun _ _ _ _ _ v pl hA S hv => by
   refine xA (hr _ _ _ _ _ _ S hv) fun hT hd => (getMethod_builtin hT pa slot hty hd (callWith_builtin hpl (H.use hA S (.refl _) fun ar s2 h2 as st2 k2 _ S2 ha H2 => ?_)))
   obtain ⟨ap, ak⟩ := ar
   refine xA ha fun ha1 ha2 => ?_
   obtain rfl : ak = [] := ha2
   exact GF.at (f := fun vs => call (.builtin id) vs) (v := v :: ap) H2 hA S2 (.cons (hv.mono k2) ha1) k2
theorem recv_list {a : AV} {l : List AV} (hl : IsL st.σ a l) : RecvT p st a "list" := fun _ _ _ _ _ v S hv => by
 refine xEEEAA (hl.at S hv) fun y vs k zz1 e r => ?_; subst zz1
 exact ⟨⟨_, e, rfl⟩, fun x q => by cases q; exact ⟨_, e, rfl⟩⟩
theorem recv_dict {d : Addr} {es : List (Str × AV)} {ep : Nat} (e : st.σ d = some (.dict es ep)) : RecvT p st (.ref d) "dict" := fun _ _ _ _ _ v S hv => by
 apply VR.onRef hv
 refine xEA ((S.obj _ _ e).1) fun ds e1 r => ?_
 exact ⟨e1.dictOf.typeIs, fun x q => by cases q; refine xEEAA e1 fun o _ z hx _ => ?_; exact ⟨o, z, hx.2.1⟩⟩
theorem recv_set {d : Addr} {T : Str → Bool} {k : Nat} (e : st.σ d = some (.set T k)) : RecvT p st (.ref d) "set" := fun _ _ _ _ _ v S hv => by
 apply VR.onRef hv
 have e1 : Heap.SetOf (strKind p.prog p.w) _ _ _ _ := (S.obj _ _ e).1
 exact ⟨e1.typeIs, fun x q => by cases q; refine xEEEEAA e1 fun o _ _ _ z hx _ => ?_; exact ⟨o, z, hx.2.1⟩⟩
theorem call_append {d : Addr} {l : List AV} {a : AV} (e : st.σ d = some (.list l)) (h : Q .none (st.put d (.list (l ++ [a])))) (hz : l.length ≤ 16777216) : CW p n b env (.builtin "list.append") [.ref d, a] Q X st :=
 GF.mk fun _ _ _ s _ _ _ S hv => by
   refine xEEAA hv.two fun v u zz2 hv1 hu => ?_; subst zz2
   apply VR.onRef hv1
   exact xEEA ((S.obj _ _ e).1) fun vs k e1 r => (append_raw e1 (by rw [r.length]; exact hz) fun k' h' e' hs => (NP.mk (S.setO (s' := { s with heap := h' }) (ao' := .list (l ++ [a])) e hs rfl rfl ⟨_, k', e', r.append (.cons hu .nil)⟩) (.refl _) .none h))
theorem XW.append {o : Expr} {apos pos spos : Pos} {e : Expr} {Q : AF → St → Prop} (H : EW p n b env o (fun a st1 => ∃ d, a = .ref d ∧ EW p n b env e (fun c st2 => ∃ l, st2.σ d = some (.list l) ∧ l.length ≤ 16777216 ∧ Q .next (st2.put d (.list (l ++ [c])))) X st1 ∧ ∃ l, st1.σ d = some (.list l)) X st)
   {pl : Sem Bool} (hi : interactive env = false := by rfl) (hs : swapsWith (.Call (.Attribute o (Str.ofString "append") apos) [e] [] pos) none spos.line env = pure false := by rfl)
   (he : eval (.Call (.Attribute o (Str.ofString "append") apos) [e] [] pos) env = (do
     let ov ← eval o env
     standAt apos.atName
     let (f, first) ← holding [ov] (getMethod ov (Str.ofString "append") pl)
     callWith pos f first (backTo pos (starEach [e] env)) []) := by rfl)
   (hst : backTo pos (starEach [e] env) = [(false, eval e env)] := by rfl) : XW p n b env (.Expr (.Call (.Attribute o (Str.ofString "append") apos) [e] [] pos) spos) Q X st := by
 refine XW.expr (EW.callM (H.mono (fun a st1 hq => ?_) fun _ _ z => z) he) hi hs
 refine xEAAE hq fun d zz3 h1 l hl => ?_; subst zz3
 exact MW.builtin (recv_list (.inr ⟨d, rfl, hl⟩)) F.plainAttrs_list F.slot_list_append F.type_list_append (AW.cons (LW.cons (h1.mono (fun c st2 hq => LW.nil (xEAA hq fun l' e' hz hq => (call_append e' hq hz))) fun _ _ z => z) hst) hst) (by rw [hst]; rfl)
end
section
variable {p : PC} {L : Addr} {outer : List Env} {h₀ : Heap} {s : Shared} {st : St} {hid : Hid}
theorem Sat.forget (S : Sat p L outer h₀ s st hid) {st' : St} (hρ : ∀ x v, st'.ρ x = some v → st.ρ x = some v) (hσ : ∀ a o, st'.σ a = some o → st.σ a = some o) : Sat p L outer h₀ s st' hid := by
 refine ⟨S.base, S.sub, ?_, S.locF, ?_, S.locH, fun a o e => S.obj a o (hσ a o e), S.hidd, S.out, S.os, S.gens⟩
 · exact xEA S.loc fun m hn hv => ⟨m, hn, fun x av e => hv x av (hρ x av e)⟩
 · cases q : st'.σ L with
   | none => rfl
   | some o => have := hσ _ _ q; rw [S.locS] at this; exact xns this
theorem era_some {α β : Type} [DecidableEq α] {f : α → Option β} {a x : α} {y : β} (h : era f a x = some y) : x ≠ a ∧ f x = some y := by
 by_cases q : x = a
 · subst q; rw [era_same] at h; exact xns h
 · rw [era_ne _ q] at h; exact ⟨q, h⟩
theorem Sat.freeze (S : Sat p L outer h₀ s st hid) {a : Addr} {l : List AV} (e : st.σ a = some (.list l)) : ∃ h₁, Sub h₀ h₁ ∧ Sat p L outer h₁ s (st.del a) hid ∧ VR h₁ (.lst l) (.ref a) := by
 have S' := S.forget (st' := st.del a) (fun _ _ z => z) fun x o z => (era_some z).2
 refine xA S'.refreeze fun k S'' => ?_
 refine xAA (S.obj a _ e) fun zz1 _ hh => ?_; obtain ⟨vs, n, e1, r⟩ := zz1
 refine ⟨_, k, S'', .lst (n := n) ?_ (r.mono k)⟩
 rw [mask_get]
 have : priv L (st.del a) hid a = false := priv_false.mpr ⟨(by intro z; rw [z, S.locS] at e; exact xns e), era_same _ _, hh⟩
 rw [this]
 exact e1
theorem Sat.retell (S : Sat p L outer h₀ s st hid) {ρ' : String → Option AV} (hρ : ∀ x v, ρ' x = some v → ∃ v', st.ρ x = some v' ∧ ∀ u, VR h₀ v' u → VR h₀ v u) : Sat p L outer h₀ s ⟨ρ', st.σ⟩ hid := by
 exact ⟨S.base, S.sub, (xEA S.loc fun m hn hv => ⟨m, hn, fun x av e => (xEA (hρ x av e) fun v' e1 e2 => (xEA (hv x v' e1) fun u e3 e4 => ⟨u, e3, e2 u e4⟩))⟩), S.locF, S.locS, S.locH, S.obj, S.hidd, S.out, S.os, S.gens⟩
end
section
variable {p : PC} {n : Nat} {b : Mode} {env : Env} {X : Value → St → Prop} {st : St} {α β : Type} {R : Heap → β → α → Prop} {t : Sem α}
theorem GW.frzV {x : String} {a : Addr} {l : List AV} {Q : β → St → Prop} (hx : st.ρ x = some (.ref a)) (e : st.σ a = some (.list l)) (H : GW p n b env R t Q X ((st.del a).set x (.lst l))) : GW p n b env R t Q X st :=
 GW.mk fun A outer h₀ s hid hA S => by
   refine xEAA (S.freeze e) fun h₁ k S' hv => (GW.at H hA (S'.retell (ρ' := upd st.ρ x (.lst l)) fun y v z => ?_) k)
   by_cases q : y = x
   · subst q
     rw [upd_same] at z
     cases Option.some.inj z
     exact ⟨.ref a, hx, fun u hu => by apply VR.onRef hu; exact hv⟩
   · rw [upd_ne _ _ q] at z
     exact ⟨v, z, fun _ z => z⟩
theorem GW.frz {t : Sem Value} (H : GW p n b env VR t (fun v st1 => ∃ a l, v = .ref a ∧ st1.σ a = some (.list l) ∧ Q (.lst l) (st1.del a)) X st) : GW p n b env VR t Q X st :=
 GW.mk fun _ _ _ _ _ hA S => H.use hA S (.refl _) fun v s1 h1 y st1 k1 _ S1 hv zy1 => xEEAA zy1 fun a l e1 e2 q => by
   subst e1
   apply VR.onRef hv
   exact xEAA (S1.freeze e2) fun h₁ k S' hv => (NP.mk S' (k1.trans k) hv q)
theorem setItem_raw {prog : Program} {w : World} {A : Around} {E : Value → Shared → Prop} {s : Shared} {l : Addr} {vs : List Value} {m : Nat} {k : Int} {t : Tok} {v : Value} {Q : Unit → Shared → Prop} (ho : s.heap.get? l = some (lstObj vs m))
   (h0 : 0 ≤ k) (hfit : k < 2 ^ 63) (hn : k.toNat < vs.length)
   (hQ : ∀ h', h'.get? l = some (lstObj (vs.set k.toNat v) m) → Heap.SameBut l s.heap h' → Q () { s with heap := h' }) : wpAny (model prog w) A (setItem (.ref l) (.int k t) v) Q E s := by
 have hT := (lst_is ho).typeIs (s := s)
 unfold setItem
 try with_reducible refine wpAny_holding ?_
 first | refine wpAny_bind (wpAny_pure ?_) | skip
 refine wpAny_bind (wpAny_sequenceKey hT (by decide) ?_)
 refine wpAny_bind (wpAny_callSpecial?_slot (name := Str.ofString "__setitem__") hT slot_list_setitem
   (wpAny_call_entry slot_list_setitem hT entry_list_setitem ?_ (args_list_setitem _ _ _)))
 show wpAny _ _ (Builtin.List.listSubscript? (.int k t) >>= _) _ _ s
 refine wpAny_bind (wpAny_listSubscript_int (fitsIndex_of h0 hfit) ?_)
 clear hfit
 refine xE (Int.eq_ofNat_of_zero_le h0) fun j zz2 => ?_; subst zz2
 have hj : j < vs.length := by simpa using hn
 have hx' : vs.toArray[j]? = some vs[j] := by simp [hj]
 show wpAny _ _ ((seqItemAt l j >>= fun r => pure (r.map (j, ·))) >>= _) _ _ s
 refine wpAny_bind (wpAny_bind (wpAny_seqItemAt ho rfl (wpAny_pure ?_)))
 rw [hx']
 show wpAny _ _ (setSeqItemAt l j v >>= _) _ _ s
 have hfin : (s.heap.update l (Obj.mapSeq (·.setIfInBounds j v))).get? l = some (lstObj (vs.set j v) m) := by
   refine (Heap.get?_update_self _ ho rfl).trans ?_
   simp [Obj.mapSeq, lstObj]
 refine wpAny_bind (wpAny_setSeqItemAt ho rfl ?_)
 first
   | exact wpAny_bind (wpAny_pure (wpAny_pure ⟨.none, rfl, wpAny_pure (hQ _ hfin (Heap.SameBut.update ..))⟩))
   | exact wpAny_pure ⟨.none, rfl, wpAny_pure (hQ _ hfin (Heap.SameBut.update ..))⟩
theorem VRs.set {h : Heap} {l : List AV} {vs : List Value} (x : VRs h l vs) (k : Nat) {a : AV} {v : Value} (y : VR h a v) : VRs h (l.set k a) (vs.set k v) := by
 induction l generalizing vs k with
 | nil => apply VRs.onNil x; simp; exact .nil
 | cons c l ih =>
   apply VRs.onCons x; intro zv zvs p q
   cases k with
   | zero => exact .cons y q
   | succ k => exact .cons p (ih q k)
noncomputable def SIW (p : PC) (n : Nat) (b : Mode) (env : Env) (a c d : AV) (Q : St → Prop) (X : Value → St → Prop) (st : St) : Prop :=
 ∀ A outer h₀ s hid v u w, AOK n b A env outer → Sat p env.locals outer h₀ s st hid → VR h₀ a v → VR h₀ c u → VR h₀ d w →
   wpAny (model p.prog p.w) A (setItem v u w) (NP p env.locals outer h₀ hid UR (fun _ => Q)) (EP p env.locals outer h₀ hid X) s
theorem SIW.at {a c d : AV} {Q : St → Prop} {A : Around} {outer : List Env} {h₀ h₁ : Heap} {s : Shared} {hid : Hid} {v u w : Value} (H : SIW p n b env a c d Q X st) (hA : AOK n b A env outer) (S : Sat p env.locals outer h₁ s st hid) (hv : VR h₁ a v) (hu : VR h₁ c u) (hw : VR h₁ d w) (k : Sub h₀ h₁) :
   wpAny (model p.prog p.w) A (setItem v u w) (NP p env.locals outer h₀ hid UR (fun _ => Q)) (EP p env.locals outer h₀ hid X) s :=
 wpAny_mono (H A outer h₁ s hid v u w hA S hv hu hw) (fun _ _ z_ => z_.elim fun h₂ y st' k2 S2 r q => ⟨h₂, y, st', k.trans k2, S2, r, q⟩) fun _ _ e => EP.mono k (fun _ _ z => z) e
theorem si_list {a : Addr} {l : List AV} {i : Int} {d : AV} {Q : St → Prop} (e : st.σ a = some (.list l)) (h0 : 0 ≤ i) (hi : i.toNat < l.length) (h : Q (st.put a (.list (l.set i.toNat d)))) (hf : i < 2 ^ 63 := by lia) : SIW p n b env (.ref a) (.int i) d Q X st :=
 fun _ _ _ s _ _ _ _ _ S hv hu hw => by
   apply VR.onRef hv
   apply VR.onInt hu; intro zt
   exact xEEA ((S.obj _ _ e).1) fun vs k e1 r => (setItem_raw e1 h0 hf (by rw [r.length]; exact hi) fun h' e' hs => (NP.mk (S.setO (s' := { s with heap := h' }) (ao' := .list (l.set i.toNat d)) e hs rfl rfl ⟨_, k, e', r.set _ hw⟩) (.refl _) (y := ()) trivial h))
theorem XW.assignSub {o i e : Expr} {pos' pos : Pos} {Q : AF → St → Prop} (H : EW p n b env e (fun d st1 => EW p n b env o (fun a st2 => EW p n b env i (fun c st3 => SIW p n b env a c d (Q .next) X st3) X st2) X st1) X st)
   (hs : swapsWith e (some (.Subscript o i pos')) pos.line env = pure false := by rfl) : XW p n b env (.Assign [.Subscript o i pos'] e pos) Q X st :=
 GW.mk fun _ _ _ _ _ hA S => wpAny_Assign_Subscript (H.use hA S (.refl _) fun _ _ _ _ _ k1 _ S1 hv H1 => H1.use hA S1 k1 fun _ _ _ _ _ k2 k12 S2 hu H2 => H2.use hA S2 k2 fun _ _ _ _ _ k3 k23 S3 hw H3 =>
   wpAny_mono (H3.at hA S3 (hu.mono k23) hw ((hv.mono k12).mono k23) k3) (fun _ _ z_ => z_.elim fun h4 _ st4 k4 S4 _ q => NP.mk S4 k4 .next q) fun _ _ e => e) hs
theorem XW.augSub {o i e : Expr} {op : Operator} {pos' pos : Pos} {Q : AF → St → Prop}
   (H : EW p n b env o (fun a st1 => EW p n b env i (fun c st2 => GV2 p n b env a c VR getItem (fun old st3 => EW p n b env e (fun d st4 => GV2 p n b env old d VR (inplaceOp op) (fun new st5 => SIW p n b env a c new (Q .next) X st5) X st4) X st3) X st2) X st1) X st)
   (ha : ∀ ov iv new, augStore i ov iv new = (do holding [new, ov, iv] (setItem ov iv new); release [new, ov, iv] []; pure .next) := by intro _ _ _; rfl) : XW p n b env (.AugAssign (.Subscript o i pos') op e pos) Q X st :=
 GW.mk fun _ _ _ _ _ hA S => wpAny_AugAssign_Subscript_any (H.use hA S (.refl _) fun _ _ _ _ _ k1 _ S1 hv H1 => H1.use hA S1 k1 fun _ _ _ _ _ k2 k12 S2 hu H2 =>
   wpAny_mono (H2 _ _ _ _ _ _ _ hA S2 (hv.mono k12) hu) (fun _ _ z_ => z_.elim fun h3 old st3 k3 S3 ho H3 => H3.use hA S3 (k2.trans k3) fun _ _ h4 _ _ k4 k34 S4 hd H4 =>
     wpAny_mono (H4 _ _ _ _ _ _ _ hA S4 (ho.mono k34) hd) (fun _ _ z_ => z_.elim fun h5 nw st5 k5 S5 hn H5 =>
       wpAny_mono (H5.at hA S5 ((hv.mono k12).mono (k3.trans (k34.trans k5))) (hu.mono (k3.trans (k34.trans k5))) hn (k4.trans k5)) (fun _ _ z_ => z_.elim fun h6 _ st6 k6 S6 _ q => NP.mk S6 k6 .next q) fun _ _ e => e)
       fun _ _ e => EP.mono k4 (fun _ _ z => z) e) fun _ _ e => EP.mono k2 (fun _ _ z => z) e) ha
theorem get_list {a x : AV} {l : List AV} {i : Int} (hl : IsL st.σ a l) (h0 : 0 ≤ i) (hx : l[i.toNat]? = some x) (h : Q x st) (hi : i < 2 ^ 63 := by lia) :
   GV2 p n b env a (.int i) VR getItem Q X st :=
 GV2.mk fun _ _ _ _ _ _ _ _ S hv hu => by
   apply VR.onInt hu; intro zt
   refine xEEEAA (hl.at S hv) fun y vs k zz3 e r => ?_; subst zz3
   exact xEA (r.get hx) fun v e1 e2 => (wpAny_getItem_list (lst_is e) h0 hi (by simpa using e1) (NP.mk S (.refl _) e2 h))
theorem idx_last {value slice : Expr} {a x : AV} {l : List AV} (hl : IsL st.σ a l) (hx : l[l.length - 1]? = some x) (h : Q x st) (hs : isSlice slice = false := by rfl) :
   GV2 p n b env a (.int (-1)) VR (subscriptTail value slice) Q X st :=
 GV2.mk fun _ _ _ _ _ _ _ _ S hv hu => by
   apply VR.onInt hu; intro zt
   refine xEEEAA (hl.at S hv) fun y vs k zz4 e r => ?_; subst zz4
   refine xEA (r.get hx) fun v e1 e2 => ?_
   rw [← r.length] at e1
   have hlt := (List.getElem?_eq_some_iff.mp e1).1
   exact tail_any (lst_is e).typeIs slot_list_getitem.lookup (wpAny_getItem_list_neg (lst_is e) (by decide) (by rw [List.size_toArray]; lia) (by decide) (by rw [List.size_toArray, show ((-1 : Int) + (vs.length : Int)).toNat = vs.length - 1 from by lia]; simpa using e1) (NP.mk S (.refl _) e2 h)) (subscripted_plain hs)
end
noncomputable def aget (es : List (Str × AV)) (k : Str) : Option AV := (es.find? fun e => e.1 = k).map (·.2)
noncomputable def aset (es : List (Str × AV)) (k : Str) (v : AV) : List (Str × AV) := if es.any (fun e => e.1 = k) then es.map (fun e => if e.1 = k then (e.1, v) else e) else es ++ [(k, v)]
noncomputable def adel (es : List (Str × AV)) (k : Str) : List (Str × AV) := es.filter fun e => decide (e.1 ≠ k)
section
variable {h : Heap} {es : List (Str × AV)} {ds : List (Str × Value)}
set_option tactic.hygienic true in
theorem DRs.get (r : DRs h es ds) (k : Str) : (∀ a, aget es k = some a → ∃ v, valueAt ds k = some v ∧ VR h a v) ∧ (aget es k = none → valueAt ds k = none) := by
 unfold aget valueAt
 induction r with
 | nil => simp
 | cons hv _ ih =>
   rename_i k' a v l ds' _
   simp only [List.find?_cons]
   by_cases q : k' = k
   · subst q
     simp only [decide_true, Option.map_some]
     exact ⟨fun a e => by cases Option.some.inj e; exact ⟨_, rfl, hv⟩, fun e => by exact xsn e⟩
   · simp only [q, decide_false]
     exact ih
theorem DRs.any (r : DRs h es ds) (k : Str) : (ds.any fun e => e.1 = k) = (es.any fun e => e.1 = k) := by
 induction r with
 | nil => rfl
 | cons hv _ ih => simp only [List.any_cons, ih]
theorem DRs.append {es' : List (Str × AV)} {ds' : List (Str × Value)} (r : DRs h es ds) (r' : DRs h es' ds') : DRs h (es ++ es') (ds ++ ds') := by
 induction r with
 | nil => exact r'
 | cons hv _ ih => exact .cons hv ih
set_option tactic.hygienic true in
theorem DRs.mapSet (r : DRs h es ds) (k : Str) {a : AV} {v : Value} (hv : VR h a v) : DRs h (es.map (fun e => if e.1 = k then (e.1, a) else e)) (ds.map (fun e => if e.1 = k then (e.1, v) else e)) := by
 induction r with
 | nil => exact .nil
 | cons hw _ ih =>
   rename_i k' a' v' l ds' _
   simp only [List.map_cons]
   by_cases q : k' = k
   · simp only [q, if_true]; exact .cons hv ih
   · simp only [q, if_false]; exact .cons hw ih
theorem DRs.set (r : DRs h es ds) (k : Str) {a : AV} {v : Value} (hv : VR h a v) : DRs h (aset es k a) (stored ds k v) := by
 unfold aset stored
 rw [r.any]
 split
 · exact r.mapSet k hv
 · exact r.append (.cons hv .nil)
set_option tactic.hygienic true in
theorem DRs.del (r : DRs h es ds) (k : Str) : DRs h (adel es k) (without ds k) := by
 unfold adel without
 induction r with
 | nil => exact .nil
 | cons hw _ ih =>
   rename_i k' a' v' l ds' _
   simp only [List.filter_cons]
   by_cases q : k' = k
   · simp only [q, ne_eq, not_true, decide_false]; exact ih
   · simp only [ne_eq, q, not_false_iff, decide_true, if_true]; exact .cons hw ih
end
section
theorem is_str {prog : Program} {w : World} (x : Str) (t : Tok) : (PySem.strKind prog w).is x (.str x t) = true := by simp [PySem.strKind, Value.isStrOf]
theorem noSys {L : Addr} {outer : List Env} {h₀ : Heap} {s : Shared} {hid : Hid} (S : Sat p L outer h₀ s st hid) : (s.heap.objs.size == sysModules) = false := by
 have := (p.hT.g.keeps (S.base.trans S.sub)).lt
 rw [beq_eq_false_iff_ne]
 have e : sysModules < mainGlobals := by decide
 exact Nat.ne_of_gt (Nat.lt_trans e this)
theorem EW.dict0 {pos : Pos} (h : ∀ d, st.σ d = none → Q (.ref d) (st.put d (.dict [] 0))) : EW p n b env (.Dict [] [] pos) Q X st :=
 GW.mk fun _ _ _ s _ _ S => by
   exact wpAny_Dict_empty (xA (S.pushO (s' := { s with heap := s.heap.push { cls := .type "dict", data := .dict #[] } }) (.dict [] 0) rfl rfl rfl ⟨[], ⟨_, #[], Heap.get?_push_size _ rfl, ⟨rfl, rfl, rfl⟩, rfl, fun _ he => by simp at he, .nil, .nil⟩, .nil, noSys S⟩) fun f S' => (NP.mk S' (.refl _) (.ref _) (h _ f)))
theorem in_dict {d : Addr} {es : List (Str × AV)} {ep : Nat} {k : Str} (e : st.σ d = some (.dict es ep)) (h : Q (.bool (aget es k).isSome) st) : GV2 p n b env (.str k) (.ref d) VR (compareOp .In) Q X st :=
 GV2.mk fun _ _ _ _ _ _ _ _ S hv hu => by
   apply VR.onStr hv; intro zt
   apply VR.onRef hu
   refine xEAA ((S.obj _ _ e).1) fun ds e1 r z => (wpAny_in_of (is_str _ _) z e1.dictOf.mapOf ?_)
   have hg := r.get k
   cases q : aget es k with
   | none => rw [hg.2 q]; exact NP.mk (S.of_eq rfl rfl rfl) (.refl _) (.bool _) (by rw [q] at h; exact h)
   | some a => refine xEA (hg.1 a q) fun v e2 _ => ?_; rw [e2]; exact NP.mk (S.of_eq rfl rfl rfl) (.refl _) (.bool _) (by rw [q] at h; exact h)
theorem idx_dict {value slice : Expr} {d : Addr} {es : List (Str × AV)} {ep : Nat} {k : Str} {a : AV} (e : st.σ d = some (.dict es ep)) (ha : aget es k = some a) (h : Q a st) (hs : isSlice slice = false := by rfl) :
   GV2 p n b env (.ref d) (.str k) VR (subscriptTail value slice) Q X st :=
 GV2.mk fun _ _ _ _ _ _ _ _ S hv hu => by
   apply VR.onRef hv
   apply VR.onStr hu; intro zt
   exact xEAA ((S.obj _ _ e).1) fun ds e1 r z => (xEA ((r.get k).1 a ha) fun v e2 e3 => (tail_any e1.dictOf.typeIs slot_dict_getitem.lookup (wpAny_getItem_of (is_str _ _) e1.dictOf.mapOf e2 (NP.mk (S.of_eq rfl rfl rfl) (.refl _) e3 h)) (subscripted_plain hs)))
theorem call_dget {d : Addr} {es : List (Str × AV)} {ep : Nat} {k : Str} (e : st.σ d = some (.dict es ep)) (h : Q ((aget es k).getD .none) st) : CW p n b env (.builtin "dict.get") [.ref d, .str k] Q X st :=
 GF.mk fun _ _ _ _ _ _ _ S hv => by
   refine xEEAA hv.two fun v u zz5 hv1 hu => ?_; subst zz5
   apply VR.onRef hv1
   apply VR.onStr hu; intro zt
   refine xEAA ((S.obj _ _ e).1) fun ds e1 r z => (call_meetsIn F.slot_dict_get e1.dictOf.typeIs F.entry_dict_get (F.args_dict_get_2 _ _) (meets_dict_get (PySem.strKind p.prog p.w) d (is_str _ _) z) ⟨_, e1.dictOf.mapOf, ?_⟩)
   have hg := r.get k
   cases q : aget es k with
   | none => rw [hg.2 q]; exact NP.mk (S.of_eq rfl rfl rfl) (.refl _) .none (by rw [q] at h; exact h)
   | some a => refine xEA (hg.1 a q) fun v e2 e3 => ?_; rw [e2]; exact NP.mk (S.of_eq rfl rfl rfl) (.refl _) e3 (by rw [q] at h; exact h)
theorem si_dict {d : Addr} {es : List (Str × AV)} {ep : Nat} {k : Str} {a : AV} {Q : St → Prop} (e : st.σ d = some (.dict es ep)) (h : ∀ ep', Q (st.put d (.dict (aset es k a) ep'))) (hz : es.length ≤ 16777216) : SIW p n b env (.ref d) (.str k) a Q X st :=
 fun _ _ _ s _ _ _ _ _ S hv hu hw => by
   apply VR.onRef hv
   apply VR.onStr hu; intro zt
   exact xEAA ((S.obj _ _ e).1) fun ds e1 r z => (wpAny_setItem_pairs (is_str _ _) e1.dictOf (fun h' hd hs => (xE hd.dictAt fun ep' hd' => (NP.mk (S.setO (s' := { s with heap := h', toks := s.toks + 1 }) (ao' := .dict (aset es k a) ep') e hs rfl rfl ⟨_, hd', r.set k hw, z⟩) (.refl _) (y := ()) trivial (h ep')))) (by rw [r.length, sizeLine_val]; exact hz))
theorem XW.delSub {o i : Expr} {pos' pos : Pos} {Q : AF → St → Prop} (H : EW p n b env o (fun a st1 => EW p n b env i (fun c st2 => GV2 p n b env a c UR delItem (fun _ => Q .next) X st2) X st1) X st) : XW p n b env (.Delete [.Subscript o i pos'] pos) Q X st :=
 GW.mk fun _ _ _ _ _ hA S => wpAny_Delete (wpAny_deleteEach_cons (by
   rw [arm_delete_Subscript]
   refine wpAny_bind (H.use hA S (.refl _) fun _ _ _ _ _ k1 _ S1 hv H1 => wpAny_bind (wpAny_holding (H1.use hA S1 k1 fun _ _ _ _ _ k2 k12 S2 hu H2 => wpAny_bind (wpAny_standAt (wpAny_bind (wpAny_holding ?_))))))
   refine wpAny_mono (H2.at hA S2 (hv.mono k12) hu k2) (fun _ _ z_ => z_.elim fun h3 _ st3 k3 S3 _ q => wpAny_releaseD (wpAny_deleteEach_nil (NP.mk S3 k3 .next q))) fun _ _ e => e))
theorem del_dict {d : Addr} {es : List (Str × AV)} {ep : Nat} {k : Str} {Q : Unit → St → Prop} (e : st.σ d = some (.dict es ep)) (hk : (aget es k).isSome = true) (h : ∀ ep', Q () (st.put d (.dict (adel es k) ep'))) (hz : es.length ≤ 16777216) : GV2 p n b env (.ref d) (.str k) UR delItem Q X st :=
 GV2.mk fun _ _ _ s _ _ _ _ S hv hu => by
   apply VR.onRef hv
   apply VR.onStr hu; intro zt
   refine xEAA ((S.obj _ _ e).1) fun ds e1 r z => (xE (Option.isSome_iff_exists.mp hk) fun a ha => (xEA ((r.get k).1 a ha) fun v e2 e3 => ?_))
   refine wpAny_delItem_slot e1.dictOf.typeIs (by decide) F.slot_dict_delitem (call_meetsIn F.slot_dict_delitem e1.dictOf.typeIs F.entry_dict_delitem (F.args_dict_delitem_2 _ _) (meets_dict_delitem_pairs (PySem.strKind p.prog p.w) d (is_str _ _))
     ⟨_, e1.dictOf, by rw [r.length, sizeLine_val]; exact hz, by rw [e2]; rfl, fun h' hd hs => ?_⟩)
   exact xE hd.dictAt fun ep' hd' => (NP.mk (S.setO (s' := { s with heap := h', toks := s.toks + 1 }) (ao' := .dict (adel es k) ep') e hs rfl rfl ⟨_, hd', r.del k, z⟩) (.refl _) (y := ()) trivial (h ep'))
theorem call_set0 (h : ∀ d, st.σ d = none → Q (.ref d) (st.put d (.set (fun _ => false) 0))) : CW p n b env (.type "set") [] Q X st :=
 GF.mk fun _ _ _ s _ _ _ S hv => by
   apply VRs.onNil hv
   refine call_set_0 fun led => ?_
   refine xA (S.pushO (s' := { s with heap := s.heap.push { cls := .type "set", dict := none, data := .set #[] 0 (.fresh 0 0 led) } }) (.set (fun _ => false) 0) rfl rfl rfl
     ((setObjOf_fresh (knd := PySem.strKind p.prog p.w) led).setOf (Heap.get?_push_size _ rfl) (by unfold scanBound; lia))) fun f S' => ?_
   exact NP.mk S' (.refl _) (.ref _) (h _ f)
theorem in_set {d : Addr} {T : Str → Bool} {m : Nat} {k : Str} (e : st.σ d = some (.set T m)) (h : Q (.bool (T k)) st) : GV2 p n b env (.str k) (.ref d) VR (compareOp .In) Q X st :=
 GV2.mk fun _ _ _ _ _ _ _ _ S hv hu => by
   apply VR.onStr hv; intro zt
   apply VR.onRef hu
   have e1 : Heap.SetOf (PySem.strKind p.prog p.w) _ _ _ _ := (S.obj _ _ e).1
   exact wpAny_inSet_of (is_str _ _) rfl e1 (NP.mk (S.of_eq rfl rfl rfl) (.refl _) (.bool _) h)
theorem call_sadd {d : Addr} {T : Str → Bool} {m : Nat} {k : Str} (e : st.σ d = some (.set T m)) (h : Q .none (st.put d (.set (fun x => T x || decide (x = k)) (if T k then m else m + 1)))) (hm : m < 4000) : CW p n b env (.builtin "set.add") [.ref d, .str k] Q X st :=
 GF.mk fun _ _ _ s _ _ _ S hv => by
   refine xEEAA hv.two fun v u zz6 hv1 hu => ?_; subst zz6
   apply VR.onRef hv1
   apply VR.onStr hu; intro zt
   have e1 : Heap.SetOf (PySem.strKind p.prog p.w) _ _ _ _ := (S.obj _ _ e).1
   exact call_set_add (is_str _ _) rfl e1 (by unfold scanBound; lia) fun h' hs hS => (NP.mk (S.setO (s' := { s with heap := h', toks := s.toks + 1 }) (ao' := .set _ _) e hs rfl rfl hS) (.refl _) .none h)
theorem call_clear {d : Addr} {l : List AV} (e : st.σ d = some (.list l)) (h : Q .none (st.put d (.list []))) (hz : l.length ≤ 16777216) : CW p n b env (.builtin "list.clear") [.ref d] Q X st :=
 GF.mk fun _ _ _ s _ _ _ S hv => by
   refine xEA hv.one fun v zz7 hv1 => ?_; subst zz7
   apply VR.onRef hv1
   exact xEEA ((S.obj _ _ e).1) fun vs k e1 r => (call_meets F.slot_list_clear ⟨_, e1, rfl⟩ F.entry_list_clear (F.args_list_clear_1 _) (AutoSeq1.list_clear_list_0 _ vs.toArray k (by rw [List.size_toArray, r.length, sizeLine_val]; exact hz)) ⟨e1, (NP.mk (S.setO (s' := { s with heap := s.heap.update d (Obj.mapSeq fun _ => #[]) }) (ao' := .list []) e (Heap.SameBut.update ..) rfl rfl ⟨[], _, Heap.get?_update_self _ e1 rfl, .nil⟩) (.refl _) .none h)⟩)
theorem VRs.dropLast {h : Heap} {l : List AV} {vs : List Value} (x : VRs h l vs) : VRs h l.dropLast vs.dropLast := by
 rw [List.dropLast_eq_take, List.dropLast_eq_take, x.length]; exact x.take _
theorem call_pop {d : Addr} {l : List AV} {a : AV} (e : st.σ d = some (.list l)) (ha : l[l.length - 1]? = some a) (h : Q a (st.put d (.list l.dropLast))) (hz : l.length ≤ 16777216) : CW p n b env (.builtin "list.pop") [.ref d] Q X st :=
 GF.mk fun _ _ _ s _ _ _ S hv => by
   refine xEA hv.one fun v zz8 hv1 => ?_; subst zz8
   apply VR.onRef hv1
   refine xEEA ((S.obj _ _ e).1) fun vs k e1 r => (xEA (r.get ha) fun y e2 e3 => ?_)
   rw [← r.length] at e2
   have hne : vs.length - 1 < vs.length := (List.getElem?_eq_some_iff.mp e2).1
   refine call_meets F.slot_list_pop ⟨_, e1, rfl⟩ F.entry_list_pop (F.args_list_pop_1 _) (MeetsSeq.list_pop_last _ vs.toArray k y (by simpa using e2) (by rw [List.size_toArray, r.length, sizeLine_val]; exact hz)) ⟨e1, ?_⟩
   refine NP.mk (S.setO (s' := { s with heap := s.heap.update d (Obj.mapSeq fun xs => xs.eraseIdxIfInBounds (vs.toArray.size - 1)) }) (ao' := .list l.dropLast) e (Heap.SameBut.update ..) rfl rfl
     ⟨vs.dropLast, (if ((vs.toArray.eraseIdxIfInBounds (vs.toArray.size - 1)).size == vs.toArray.size) = true then k else k + 1), (Heap.get?_update_self _ e1 rfl).trans ?_, r.dropLast⟩) (.refl _) e3 h
   have : vs.toArray.eraseIdxIfInBounds (vs.length - 1) = vs.dropLast.toArray := by
     simp only [Array.eraseIdxIfInBounds, List.size_toArray, hne, dif_pos, List.eraseIdx_toArray]
     rw [List.dropLast_eq_take, List.eraseIdx_eq_take_drop_succ, List.drop_eq_nil_of_le (by lia), List.append_nil]
   simp only [Obj.mapSeq, List.size_toArray, this, lstObj]
end
section
variable {prog : Program} {w : World} {h h' : Heap} {d : Addr} {kvs : List (Str × Value)} {ep : Nat}
theorem isStr_is (k : Str) (v : Value) : v.isStr k = (PySem.strKind prog w).is k v := ((PySem.strKind prog w).strs k k 0 v (by simp [PySem.strKind, Value.isStrOf])).symm
theorem look_at (D : h.DictAt (PySem.strKind prog w) d kvs ep) : ∃ o, h.get? d = some o ∧ ∀ name, lookIn name o = some (valueAt kvs name) := by
 refine xEEAAAAA D fun o es ho hx hd hk hp hn => ⟨o, ho, fun name => ?_⟩
 unfold lookIn
 rw [hd]
 dsimp only
 have e : (fun e : DictEntry => e.key.isStr name) = fun e => (PySem.strKind prog w).is name e.key := funext fun e => isStr_is name e.key
 rw [e]
 have hf := hp.find name
 cases q : es.toList.find? (fun e => (PySem.strKind prog w).is name e.key) with
 | some en => rw [q] at hf; rw [← hf]; rfl
 | none =>
   rw [q] at hf
   rw [← hf]
   have : es.toList.any (·.refKey) = false := by
     rw [List.any_eq_false]
     intro en hen
     refine xEA (hk en (by simpa using hen)) fun k h1 zw => (xE (Value.isStrOf_shape h1) fun t h2 => ?_)
     simp [DictEntry.refKey, h2]
   simp [this]
theorem put_at {o : Obj} {name : Str} {t : Tok} {v : Value} (D : h.DictAt (PySem.strKind prog w) d kvs ep) (ho : h.get? d = some o) (ho' : h'.get? d = some (Obj.putName name (PyData.keyHash w.params name) (.str name t) v o)) :
   ∃ ep', h'.DictAt (PySem.strKind prog w) d (stored kvs name v) ep' := by
 refine xEEAAAAA D fun o' es ho1 zz1 hd hk hp hn => ?_; obtain ⟨hc1, hc2, hc3⟩ := zz1
 obtain rfl : o = o' := Option.some.inj (ho.symm.trans ho1)
 obtain ⟨c, dc, dt, sl⟩ := o
 dsimp only at hc1 hc2 hc3 hd
 subst hc1 hc2 hc3 hd
 rw [Obj.putName_eq] at ho'
 unfold Obj.putNameByArray at ho'
 dsimp only at ho'
 have e : (fun e : DictEntry => e.key.isStr name) = fun e => (PySem.strKind prog w).is name e.key := funext fun e => isStr_is name e.key
 rw [e] at ho'
 have hidx : (es.findIdx? fun e => (PySem.strKind prog w).is name e.key) = kvs.findIdx? fun kv => decide (kv.1 = name) := by
   rw [← hp.findIdx name]; obtain ⟨l⟩ := es; simp
 cases hi : es.findIdx? fun e => (PySem.strKind prog w).is name e.key with
 | some i =>
   rw [hi] at ho'
   refine ⟨ep, _, _, ho', ⟨rfl, rfl, rfl⟩, rfl, hk.modify _ _, ?_, ?_⟩
   · rw [stored, if_pos (any_of_findIdx_some (hidx ▸ hi))]
     have hl : (es.toList.findIdx? fun e => (PySem.strKind prog w).is name e.key) = some i := by rw [← hi]; obtain ⟨l⟩ := es; simp
     have := hp.modify hn hl v
     obtain ⟨l⟩ := es
     simpa using this
   · rw [stored, if_pos (any_of_findIdx_some (hidx ▸ hi)), keys_map_store]; exact hn
 | none =>
   rw [hi] at ho'
   have hnot : name ∉ kvs.map (·.1) := not_mem_of_findIdx_none (hidx ▸ hi)
   have hany : ¬ (kvs.any fun kv => decide (kv.1 = name)) = true := by
     rw [List.any_eq_true]; intro zz2; refine xEA zz2 fun kv hkv he => ?_
     exact hnot (List.mem_map.mpr ⟨kv, hkv, of_decide_eq_true he⟩)
   have hkey : (PySem.strKind prog w).is name (.str name t) = true := is_str _ _
   refine ⟨ep + 1, _, _, ho', ⟨rfl, rfl, rfl⟩, rfl, hk.push hkey v, ?_, ?_⟩
   · rw [stored, if_neg hany]
     have := hp.append hkey (PyData.keyHash w.params name) v
     obtain ⟨l⟩ := es
     simpa using this
   · rw [stored, if_neg hany, List.map_append, List.nodup_append]
     refine ⟨hn, by simp, ?_⟩
     intro a ha b hb
     simp only [List.map_cons, List.map_nil, List.mem_singleton] at hb
     subst hb
     exact fun e => hnot (e ▸ ha)
end
structure KCls (p : PC) (C : Addr) : Prop where
 ga : findIn p.K (.ref C) "__getattribute__" = some (some (.builtin "object.__getattribute__"))
 gm : findIn p.K (.ref C) "__getattr__" = some none
 sa : findIn p.K (.ref C) "__setattr__" = some (some (.builtin "object.__setattr__"))
 over : plainOver p.K C = true
theorem VR.handed {h : Heap} {a : AV} {v : Value} (x : VR h a v) : handedIn v = true := by cases x <;> rfl
section
theorem Sat.inK {L : Addr} {outer : List Env} {h₀ : Heap} {s : Shared} {hid : Hid} (S : Sat p L outer h₀ s st hid) : p.K.In s.heap := fun a o e => S.sub _ _ (S.base _ _ (p.hK a o e))
noncomputable abbrev GA (p : PC) (n : Nat) (b : Mode) (env : Env) (a : AV) (name : Str) (Q : AV → St → Prop) (X : Value → St → Prop) (st : St) : Prop := GF p n b env VR a VR (fun v => getAttr v name true) Q X st
noncomputable abbrev SA (p : PC) (n : Nat) (b : Mode) (env : Env) (a : AV) (name : Str) (c : AV) (Q : Unit → St → Prop) (X : Value → St → Prop) (st : St) : Prop := GV2 p n b env a c UR (fun v u => setAttr v name u) Q X st
theorem inst_at {L : Addr} {outer : List Env} {h₀ : Heap} {s : Shared} {hid : Hid} {x C dx : Addr} {es : List (Str × AV)} {ep : Nat} (S : Sat p L outer h₀ s st hid) (e : st.σ x = some (.inst C dx)) (ed : st.σ dx = some (.dict es ep)) :
   ∃ o ds, InstAt s.heap x (instObj C dx) C (some o) ∧ s.heap.get? dx = some o ∧ s.heap.DictAt (PySem.strKind p.prog p.w) dx ds ep ∧ DRs h₀ es ds ∧ (∀ name, lookIn name o = some (valueAt ds name)) := by
 have ex : s.heap.get? x = some (instObj C dx) := (S.obj _ _ e).1
 exact xEAA ((S.obj _ _ ed).1) fun ds D r zw => (xEA (look_at D) fun o ho hl => ⟨o, ds, ⟨ex, rfl, rfl, ho⟩, ho, D, r, hl⟩)
theorem ga_dict {x C dx : Addr} {es : List (Str × AV)} {ep : Nat} {name : Str} {a : AV} (e : st.σ x = some (.inst C dx)) (ed : st.σ dx = some (.dict es ep)) (hC : KCls p C) (hd : hasDictIn p.K C = true)
   (ha : findIn p.K (.ref C) name = some none) (hv : aget es name = some a) (h : Q a st) : GA p n b env (.ref x) name Q X st :=
 GF.mk fun zw zw zw zw zw zw zw S hvx => by
   apply VR.onRef hvx
   refine xEEAAAA (inst_at S e ed) fun o ds I ho D r hl => (xEA ((r.get name).1 a hv) fun v e1 e2 => ?_)
   refine get_value S.inK I hC.ga (findObj_own hd ha rfl ((hl name).trans (by rw [e1]))) e2.handed (NP.mk (S.of_eq rfl rfl rfl) (.refl _) e2 h)
theorem sa_dict {x C dx : Addr} {es : List (Str × AV)} {ep : Nat} {name : Str} {a : AV} {Q : Unit → St → Prop} (e : st.σ x = some (.inst C dx)) (ed : st.σ dx = some (.dict es ep)) (hC : KCls p C) (hd : hasDictIn p.K C = true)
   (ha : takerIn p.K C name = some none) (h : ∀ ep', Q () (st.put dx (.dict (aset es name a) ep'))) (hz : es.length ≤ 1000) : SA p n b env (.ref x) name a Q X st :=
 GV2.mk fun A outer h₀ s hid zw v hA S hvx hv => by
   apply VR.onRef hvx
   refine xEEAAAA (inst_at S e ed) fun od ds I ho D r hl => (set_plain S.inK I hC.sa (osa_open (s := { s with toks := s.toks + 1 }) S.inK I hC.over ha fun b' => (xEA (any_some (show (clsIn p.K C).any (·.hasDict) = true from hd)) fun cd hc hd' => (wpAny_bind (wpAny_pure (wpAny_bind (wpAny_bind (wpAny_loadPart I.at_ (wpAny_bind ((looks_clsIn (h := s.heap) S.inK hc) _ _ _ _ (fun zw zw z => z) ?_))))))))))
   rw [hd']
   refine wpAny_pure (a := some dx) (wpAny_bind (wpAny_pure (wpAny_bind ?_)))
   unfold nsSet
   refine wpAny_bind (wpAny_bind (wpAny_askSetting (wpAny_pure (wpAny_bind (wpAny_mkText (wpAny_bind (wpAny_loadPart ho ?_)))))))
   refine xEEAAAAA (id D) fun od' es' ho1 zz3 hdd hk hp hn => ?_; obtain ⟨hc1, hc2, hc3⟩ := zz3
   obtain rfl : od = od' := Option.some.inj (ho.symm.trans ho1)
   have nr : ∀ en ∈ es', en.refKey = false := fun en hen => by
     refine xEA (hk en hen) fun k h1 zw => (xE (Value.isStrOf_shape h1) fun t h2 => ?_)
     simp [DictEntry.refKey, h2]
   have c : (!es'.any (·.key.isStr name) && es'.any (·.refKey)) = false := by
     have : es'.any (·.refKey) = false := by
       rw [Array.any_eq_false]
       intro i hi
       rw [nr _ (Array.getElem_mem hi)]
       simp
     rw [this, Bool.and_false]
   rw [hdd]
   dsimp only
   rw [aRefKeyMayBeTheName_at, c]
   have hup := Heap.get?_update_self (h := s.heap) (Obj.putName name (PyData.keyHash p.w.params name) (.str name (s.toks + 1)) v) ho (by
     obtain ⟨c, dc, dt, sl⟩ := od
     dsimp only at hdd
     subst hdd
     rw [Obj.putName_eq]
     unfold Obj.putNameByArray
     dsimp only
     split <;> rfl)
   refine xE (put_at (t := s.toks + 1) (v := v) D ho hup) fun ep' D' => (wpAny_updatePart ho ?_)
   refine wpAny_bind (wpAny_lookBehind hup ?_ ?_)
   · refine xEEAAAAA (id D') fun od'' es'' ho2 zw hdd' zw hp' zw => ?_
     rw [Option.some.inj (hup.symm.trans ho2), hdd']
     refine pastItsLine_dict ?_
     have e1 := hp'.length
     have e2 := (r.set name hv).length
     have e3 : es''.size = (stored ds name v).length := by rw [← e1]; simp
     have e4 : (aset es name a).length ≤ es.length + 1 := by
       unfold aset; split <;> simp
     rw [e3, e2, sizeLine_val]
     lia
   · exact wpAny_pure (NP.mk (S.setO (s' := { s with heap := s.heap.update dx (Obj.putName name (PyData.keyHash p.w.params name) (.str name (s.toks + 1)) v), toks := s.toks + 1 + 1 }) (ao' := .dict (aset es name a) ep') ed (Heap.SameBut.update ..) rfl rfl
       ⟨_, D', r.set name hv, (S.obj _ _ ed).1.choose_spec.2.2⟩) (.refl _) (y := ()) trivial (h ep'))
end
section
open PySem PySem.W PyProof.Rows PySem.Calls Builtin Builtin.ObjectAttr Builtin.Getset_descriptor
section
variable {h : Heap}
theorem SlotRs.length {l : List (Option AV)} {vs : List (Option Value)} (x : SlotRs h l vs) : vs.length = l.length := by
 induction x with
 | nil => rfl
 | cons _ _ ih => simp [ih]
set_option tactic.hygienic true in
theorem SlotRs.get {l : List (Option AV)} {vs : List (Option Value)} (x : SlotRs h l vs) {i : Nat} {a : AV} (e : l[i]? = some (some a)) : ∃ v, vs[i]? = some (some v) ∧ VR h a v := by
 induction x generalizing i with
 | nil => simp at e
 | cons hv _ ih =>
   rename_i a' l' v' vs' _
   cases i with
   | zero =>
     simp only [List.getElem?_cons_zero, Option.some.injEq] at e
     subst e
     cases v' with
     | none => exact hv.elim
     | some v => exact ⟨v, rfl, hv⟩
   | succ i => simp only [List.getElem?_cons_succ] at e ⊢; exact ih e
theorem SlotRs.append {l l' : List (Option AV)} {vs vs' : List (Option Value)} (x : SlotRs h l vs) (y : SlotRs h l' vs') : SlotRs h (l ++ l') (vs ++ vs') := by
 induction x with
 | nil => exact y
 | cons hv _ ih => exact .cons hv ih
theorem SlotRs.rep (n : Nat) : SlotRs h (List.replicate n none) (List.replicate n none) := by
 induction n with
 | zero => exact .nil
 | succ n ih => exact .cons trivial ih
theorem SlotRs.set {l : List (Option AV)} {vs : List (Option Value)} (x : SlotRs h l vs) (i : Nat) {a : AV} {v : Value} (hv : VR h a v) : SlotRs h (l.set i (some a)) (vs.set i (some v)) := by
 induction x generalizing i with
 | nil => exact .nil
 | cons hw hr ih =>
   cases i with
   | zero => exact .cons hv hr
   | succ i => exact .cons hw (ih i)
end
noncomputable def sset (l : List (Option AV)) (i : Nat) (a : AV) : List (Option AV) := (l ++ List.replicate (i + 1 - l.length) none).set i (some a)
section
structure KSlot (p : PC) (C : Addr) (name : Str) (q : Addr) (i : Nat) : Prop where
 cls : isClsIn p.K C = true
 find : findIn p.K (.ref C) name = some (some (.ref q))
 get : specialIn p.K (.ref q) "__get__" = some (some (.builtin "member_descriptor.__get__"))
 takes : takesIn p.K (.ref q) = some true
 taker : takerIn p.K C name = some (some (.ref q))
 type : typeIn p.K (.ref q) = some (.type "member_descriptor")
 slot : slotIn p.K q C = some i
 lt : i < 1000
theorem slots_at {L : Addr} {outer : List Env} {h₀ : Heap} {s : Shared} {hid : Hid} {x C : Addr} {vs : List (Option AV)} (S : Sat p L outer h₀ s st hid) (e : st.σ x = some (.slots C vs)) :
   ∃ sl dx, InstAt s.heap x { cls := .ref C, dict := some dx, data := .plain, slots := sl.toArray } C (some emptyDict) ∧ SlotRs h₀ vs sl ∧ h₀.get? dx = some emptyDict := by
 exact xEEAA ((S.obj _ _ e).1) fun sl dx e1 r z => ⟨sl, dx, ⟨e1, rfl, rfl, S.sub _ _ z⟩, r, z⟩
theorem ga_slot {x C q : Addr} {vs : List (Option AV)} {name : Str} {i : Nat} {a : AV} (e : st.σ x = some (.slots C vs)) (hC : KCls p C) (hq : KSlot p C name q i) (hv : vs[i]? = some (some a)) (h : Q a st) : GA p n b env (.ref x) name Q X st :=
 GF.mk fun _ _ _ s _ _ _ S hvx => by
   apply VR.onRef hvx
   exact xEEAA (slots_at S e) fun sl dx I r _ => (xEA (r.get hv) fun v e1 e2 => (get_bind S.inK I hC.ga (findObj_data hq.cls hq.find hq.get hq.takes) hC.gm (wpAny_call (slot_get (s := { s with toks := s.toks + 1 }) S.inK I hq.slot (by simp [e1]) (handed_on e2.handed (NP.mk (S.of_eq rfl rfl rfl) (.refl _) e2 h))))))
theorem slot_set_raw {prog : Program} {w : World} {A : Around} {s : Shared} {K : Frag} {C x : Addr} {R : Result → Shared → Prop} {ox : Obj} {od : Option Obj} {v : Value} {q i : Nat} (Xk : K.In s.heap) (I : InstAt s.heap x ox C od)
   (hp : slotIn K q C = some i) (hi : i < 1000)
   (h : R (.ok (.ret .none)) { s with heap := s.heap.update x fun o => { o with slots := (o.slots ++ Array.replicate (i + 1 - o.slots.size) none).setIfInBounds i (some v) } }) :
   codeAny (model prog w) A (.call (.builtin "member_descriptor.__set__") ⟨[.ref q, .ref x, v], []⟩) R s := by
 refine xEEEEEEEEAAAA (slot_of Xk hp) fun n tn owner behind tb d sl cd ho hc hm hb zz1 => ?_; subst zz1
 obtain ⟨hh, g, dr, t, os⟩ := s
 have L0 := I.type (M := model prog w)
 have L1 := looks_mroIn (M := model prog w) Xk hm
 have L2 : Looks (model prog w) hh (Slots.slotNamesOf (.ref C)) cd.slotNames := (looks_clsIn Xk hc).andThen .now
 have hx := I.at_
 dsimp only at ho hx L0 L1
 have f0 := looks_field (M := model prog w) ho 0 (v := .str n tn) rfl
 have f1 := looks_field (M := model prog w) ho 1 (v := owner) rfl
 have f3 := looks_field (M := model prog w) ho 3 (v := .builtin "proto.slot#set") rfl
 have f4 := looks_field (M := model prog w) ho 4 (v := .int behind tb) rfl
 refine codeAny_call_builtin KF.slot_mset.plain KF.entry_mset (KF.slot_mset.check _ _ _ _ _ _ _ _ ⟨_, ho, rfl⟩ (KF.args_mset _ _ _) ?_)
 unfold Builtin.«member_descriptor.__set__» descrSet descrStoreThrough descrCheckInstance descrNameAndClass isInstance
 have f5 : Looks (model prog w) hh (descrItself (.ref q)) [.ref q] := ((Looks.ld (part := none) ho).andThen .now).andThen (Looks.of_pure (by kernel_rfl))
 repeat lk
 refine ⟨Code.quiet_builtin _ (by decide +kernel), codeAny_builtin KF.entry_slotset ?_⟩
 unfold Builtin.«proto.slot#set» Slots.target
 repeat lk
 rw [if_neg hb]
 refine wpAny_pure (wpAny_bind ?_)
 unfold setSlotAt
 dsimp only
 rw [if_neg (by rw [sizeLine_eq]; lia)]
 exact wpAny_updatePart hx (wpAny_pure h)
theorem sa_slot {x C q : Addr} {vs : List (Option AV)} {name : Str} {i : Nat} {a : AV} {Q : Unit → St → Prop} (e : st.σ x = some (.slots C vs)) (hC : KCls p C) (hq : KSlot p C name q i) (h : Q () (st.put x (.slots C (sset vs i a)))) : SA p n b env (.ref x) name a Q X st :=
 GV2.mk fun _ _ _ s _ _ v _ S hvx hv => by
   apply VR.onRef hvx
   refine xEEAA (slots_at S e) fun sl dx I r z => (set_plain S.inK I hC.sa (osa_descr (s := { s with toks := s.toks + 1 }) KF.slot_mset S.inK I hC.over hq.taker hq.type (slot_set_raw (s := { s with toks := s.toks + 1 }) S.inK I hq.slot hq.lt ?_)))
   refine NP.mk (S.setO (s' := { s with heap := s.heap.update x fun o => { o with slots := (o.slots ++ Array.replicate (i + 1 - o.slots.size) none).setIfInBounds i (some v) }, toks := s.toks + 1 }) (ao' := .slots C (sset vs i a)) e (Heap.SameBut.update ..) rfl rfl
     ⟨(sl ++ List.replicate (i + 1 - sl.length) none).set i (some v), dx, (Heap.get?_update_self _ I.at_ rfl).trans ?_, ?_, z⟩) (.refl _) (y := ()) trivial h
   · simp only [List.size_toArray, Option.some.injEq, Obj.mk.injEq, true_and]
     apply Array.toList_inj.mp
     simp
   · unfold sset
     rw [r.length]
     exact (r.append (SlotRs.rep _)).set i hv
theorem EW.attr {o : Expr} {name : Str} {pos : Pos} (H : EW p n b env o (fun a st1 => GA p n b env a name Q X st1) X st)
   (he : eval (.Attribute o name pos) env = (do
     let o ← eval o env
     standAt pos.atName
     let r ← holding [o] (getAttr o name true)
     letTemporaryGo ‹Expr› o r
     pure r) := by with_unfolding_all rfl) : EW p n b env (.Attribute o name pos) Q X st :=
 GW.mk fun _ _ _ _ _ hA S => Attribute_any_ (H.use hA S (.refl _) fun _ _ _ _ _ k1 _ S1 hv H1 => GF.at (f := fun v => getAttr v name true) H1 hA S1 hv k1) he
theorem XW.assignAttr {o e : Expr} {name : Str} {pos' pos : Pos} {Q : AF → St → Prop} (H : EW p n b env e (fun c st1 => EW p n b env o (fun a st2 => SA p n b env a name c (fun _ => Q .next) X st2) X st1) X st)
   (hs : swapsWith e (some (.Attribute o name pos')) pos.line env = pure false := by rfl) : XW p n b env (.Assign [.Attribute o name pos'] e pos) Q X st :=
 GW.mk fun _ _ _ _ _ hA S => plainObj_wpAny_Assign_Attribute (H.use hA S (.refl _) fun _ _ _ _ _ k1 _ S1 hv H1 => H1.use hA S1 k1 fun _ _ _ _ _ k2 k12 S2 hu H2 =>
   wpAny_mono (GV2.at (f := fun v u => setAttr v name u) H2 hA S2 hu (hv.mono k12) k2) (fun _ _ z_ => z_.elim fun _ _ _ k3 S3 _ q => NP.mk S3 k3 .next q) fun _ _ e => e) hs
theorem XW.augAttr {o e : Expr} {name : Str} {op : Operator} {pos' pos : Pos} {Q : AF → St → Prop}
   (H : EW p n b env o (fun a st1 => GA p n b env a name (fun old st2 => EW p n b env e (fun d st3 => GV2 p n b env old d VR (inplaceOp op) (fun new st4 => SA p n b env a name new (fun _ => Q .next) X st4) X st3) X st2) X st1) X st) : XW p n b env (.AugAssign (.Attribute o name pos') op e pos) Q X st :=
 GW.mk fun _ _ _ _ _ hA S => wpAny_AugAssign_AttributeAny (H.use hA S (.refl _) fun _ _ _ _ _ k1 _ S1 hv H1 =>
   wpAny_mono (GF.at (f := fun v => getAttr v name true) H1 hA S1 hv (.refl _)) (fun _ _ z_ => z_.elim fun _ _ _ k2 S2 ho H2 => H2.use hA S2 (k1.trans k2) fun _ _ _ _ _ k3 k23 S3 hd H3 =>
     wpAny_mono (H3 _ _ _ _ _ _ _ hA S3 (ho.mono k23) hd) (fun _ _ z_ => z_.elim fun _ _ _ k4 S4 hn H4 =>
       wpAny_mono (GV2.at (f := fun v u => setAttr v name u) H4 hA S4 (hv.mono (k2.trans (k23.trans k4))) hn (k3.trans k4)) (fun _ _ z_ => z_.elim fun _ _ _ k5 S5 _ q => NP.mk S5 k5 .next q) fun _ _ e => e)
       fun _ _ e => EP.mono k3 (fun _ _ z => z) e) fun _ _ e => EP.mono k1 (fun _ _ z => z) e)
end
end
section
theorem BindA.var {fd : FuncData} {as rest : List AV} {bs : List (String × AV)} {x : String} (hb : bs.map (·.2) = as) (hz : rest.length ≤ 16777216)
   (h : ∀ vs rs, vs.length = as.length → bindArgs fd ⟨vs ++ rs, []⟩ = (newTuple rs >>= fun t => pure (((bs.map fun x => Str.ofString x.1).zip vs) ++ [(Str.ofString x, t)]))) : BindA p fd (as ++ rest) (bs ++ [(x, .tup rest)]) :=
 fun A L outer h₀ s st hid vs E Q S hv k => by
   have hsplit : ∃ v1 v2, vs = v1 ++ v2 ∧ VRs h₀ as v1 ∧ VRs h₀ rest v2 := by
     clear hb h k
     induction as generalizing vs with
     | nil => exact ⟨[], vs, rfl, .nil, hv⟩
     | cons a r ih =>
       cases hv with | cons h1 h2 =>
       exact xEEAA (ih _ h2) fun v1 v2 e r1 r2 => (⟨_ :: v1, v2, by rw [e]; rfl, .cons h1 r1, r2⟩)
   refine xEEAA hsplit fun v1 v2 zz1 r1 r2 => ?_; subst zz1
   rw [h v1 v2 r1.length]
   unfold newTuple
   refine wpAny_bind (wpAny_newObj_type (xEAA (S.pushF (s' := { s with heap := s.heap.push (tupObj v2 0) }) (tupObj v2 0) rfl rfl rfl rfl) fun h₁ k1 S' e => (wpAny_pure ?_)) (by show v2.toArray.size ≤ sizeLine; rw [List.size_toArray, r2.length, sizeLine_val]; exact hz))
   have hl : (bs.map fun x => Str.ofString x.1).length = v1.length := by rw [r1.length, ← hb]; simp
   have := k h₁ _ (v1 ++ [.ref s.heap.objs.size]) k1 S' (by
     rw [List.map_append, hb]
     exact (r1.mono k1).append (.cons (.tup e (r2.mono k1)) .nil))
   rw [List.map_append, List.zip_append hl] at this
   exact this
noncomputable def CC (p : PC) (n : Nat) (b : Mode) (env : Env) (f : Value) (as : List AV) (Q : AV → St → Prop) (X : Value → St → Prop) (st : St) : Prop :=
 ∀ A outer h₀ s hid vs, AOK n b A env outer → Sat p env.locals outer h₀ s st hid → VRs h₀ as vs →
   codeAny (model p.prog p.w) A (.call f ⟨vs, []⟩) (wants (NP p env.locals outer h₀ hid VR Q) (EP p env.locals outer h₀ hid X)) s
theorem CC.cw {f : Value} {as : List AV} (H : CC p n b env f as Q X st) : CW p n b env f as Q X st := GF.mk fun A outer h₀ s hid vs hA S hv => wpAny_call (H A outer h₀ s hid vs hA S hv)
theorem AOK.underT {A : Around} {outer : List Env} {as : Args} (hA : AOK (n + 1) b A env outer) : AOK n b (A.under (.builtin "type.__call__" as)) env outer := by
 refine ⟨?_, hA.handled, ?_, ?_, hA.kind, hA.frame, hA.glob, hA.bi⟩
 · show pushEnvs (Code.builtin "type.__call__" as).envs A.frames = _
   rw [hA.frames]; rfl
 · have := hA.depth
   have h2 : (Code.builtin "type.__call__" as).weight ≤ 20 := by
     unfold Code.weight
     have e1 : (Code.builtin "type.__call__" as).frames = 0 := rfl
     have e3 : (Code.builtin "type.__call__" as).isCaller = false := rfl
     rw [e1, e3]
     split <;> split <;> simp
   show A.depth + (Code.builtin "type.__call__" as).weight + 20 * n ≤ 900
   lia
 · have := hA.units
   have h2 : (Code.builtin "type.__call__" as).cUnits ≤ 100 := by
     have : (Code.builtin "type.__call__" as).cUnits = (Code.builtin "type.__call__" ⟨[], []⟩).cUnits := rfl
     rw [this]; decide +kernel
   show A.units + (Code.builtin "type.__call__" as).cUnits + 100 * n ≤ 9000
   lia
theorem initBack {x : Addr} {R : Result → Shared → Prop} {N : Value → Shared → Prop} {E : Value → Shared → Prop} {r : Result} {s : Shared} (h : wants N E r s) (hn : ∀ v, N v s → v = .none ∧ R (.ok (.ret (.ref x))) s) (he : ∀ e, E e s → R (.error e) s) : InitBack x R r s := by
 rcases r with e | (v | _ | _ | _)
 · exact he _ h
 all_goals first | exact hn _ h | exact h.elim
theorem makeD {C fI : Addr} {as : List AV} (hm : makesIn p.K C = true) (hi : findIn p.K (.ref C) "__init__" = some (some (.ref fI))) (hf : typeIn p.K (.ref fI) = some (.type "function"))
   (H : ∀ x dx, st.σ x = none → st.σ dx = none → x ≠ dx → CC p n b env (.ref fI) (.ref x :: as) (fun v st' => v = .none ∧ Q (.ref x) st') X ((st.put dx (.dict [] 0)).put x (.inst C dx))) : CC p (n + 1) b env (.ref C) as Q X st := by
 intro A outer h₀ s hid vs hA S hv
 obtain ⟨hh, g, d, t, os⟩ := s
 refine make_core (makes_of S.inK hm) (looks_findIn S.inK hi) (fun self => bind_fn S.inK self hf) (.inl rfl) (xA (S.pushO (s' := ⟨hh.push emptyDict, g, d, t, os⟩) (.dict [] 0) rfl rfl rfl ⟨[], ⟨_, #[], Heap.get?_push_size _ rfl, ⟨rfl, rfl, rfl⟩, rfl, fun zw he => by simp at he, .nil, .nil⟩, .nil, noSys S⟩) fun f1 S1 => (xA (S1.pushO (s' := ⟨(hh.push emptyDict).push (instObj C hh.objs.size), g, d, t, os⟩) (.inst C hh.objs.size) rfl rfl rfl (Heap.get?_push_size _ rfl)) fun f2 S2 => ?_))
 dsimp only at f1 f2 S2
 rw [Heap.size_push] at f2 S2
 have f3 : st.σ (hh.objs.size + 1) = none := by
   have : upd st.σ hh.objs.size (.dict [] 0) (hh.objs.size + 1) = none := f2
   rwa [upd_ne _ _ (Nat.succ_ne_self _)] at this
 refine codeAny_mono (H _ _ f3 f1 (Nat.succ_ne_self _) _ _ h₀ _ hid (.ref (hh.objs.size + 1) :: vs) hA.underT S2 (.cons (.ref _) hv)) fun r s' z => initBack z (fun v zy1 => xEEEAAA zy1 fun h₁ y st' k S' r q => (xA q fun q1 q2 => ?_)) fun e z => z
 subst q1
 apply VR.onNone r
 exact ⟨rfl, h₁, _, st', k, S', .ref _, q2⟩
theorem makeS {C fI : Addr} {as : List AV} (hm : makesIn p.K C = true) (hi : findIn p.K (.ref C) "__init__" = some (some (.ref fI))) (hf : typeIn p.K (.ref fI) = some (.type "function"))
   (H : ∀ x, st.σ x = none → CC p n b env (.ref fI) (.ref x :: as) (fun v st' => v = .none ∧ Q (.ref x) st') X (st.put x (.slots C []))) : CC p (n + 1) b env (.ref C) as Q X st := by
 intro A outer h₀ s hid vs hA S hv
 obtain ⟨hh, g, d, t, os⟩ := s
 refine make_core (makes_of S.inK hm) (looks_findIn S.inK hi) (fun self => bind_fn S.inK self hf) (.inl rfl) (xEAA (S.pushF (s' := ⟨hh.push emptyDict, g, d, t, os⟩) emptyDict rfl rfl rfl rfl) fun h₁ k1 S1 e1 => (xA (S1.pushO (s' := ⟨(hh.push emptyDict).push (instObj C hh.objs.size), g, d, t, os⟩) (.slots C []) rfl rfl rfl ⟨[], _, Heap.get?_push_size _ rfl, .nil, e1⟩) fun f2 S2 => ?_))
 dsimp only at f2 S2
 rw [Heap.size_push] at f2 S2
 refine codeAny_mono (H _ f2 _ _ h₁ _ hid (.ref (hh.objs.size + 1) :: vs) hA.underT S2 (.cons (.ref _) (hv.mono k1))) fun r s' z => initBack z (fun v zy2 => xEEEAAA zy2 fun h₂ y st' k S' r q => (xA q fun q1 q2 => ?_)) fun e z => EP.mono k1 (fun zw zw z => z) z
 subst q1
 apply VR.onNone r
 exact ⟨rfl, h₂, _, st', k1.trans k, S', .ref _, q2⟩
theorem EW.callK {x : Str} {f : Addr} {npos pos : Pos} {l : List Expr} (e : nsIn p.K mainGlobals x = some (some (.ref f))) (hk : keepIn p.K (.ref f) = true)
   (H : AW p n b env (.ref f) pos l (fun as st1 => CW p n b env (.ref f) as Q X st1) X st) (hpl : (backTo pos (starEach l env)).any (·.1) = false := by rfl)
   (hx : env.kindOf x = some .globalImplicit := by rfl) (hdb : (x == ("__debug__" : Str)) = false := by decide +kernel) : EW p n b env (.Call (.Name x npos) l [] pos) Q X st :=
 GW.mk fun zw zw zw zw zw hA S => by
   refine wpAny_Call_Name_kw ?_
   have hN : EW p n b env (.Name x npos) (fun a st1 => a = .ref f ∧ st1 = st) X st := EW.glob e (.ref f) ⟨rfl, rfl⟩ hx hdb
   refine hN.use hA S (.refl _) fun v s1 h1 a st1 k1 zw S1 hv hq => ?_
   refine xA hq fun zz2 zz3 => ?_; subst zz2; subst zz3
   apply VR.onRef hv
   refine callWith_of (P := fun h => p.K.In h) (by rw [hpl]; rfl) (fun h hK => keeps_K hk h hK) (H.use hA S1 k1 fun ar s2 h2 as st2 k2 zw S2 ha H2 => ?_)
   obtain ⟨ap, ak⟩ := ar
   refine xA ha fun ha1 ha2 => ?_
   obtain rfl : ak = [] := ha2
   exact ⟨S2.inK, GF.at (f := fun vs => call (.ref f) vs) (v := ap) H2 hA S2 ha1 k2⟩
structure KMeth (p : PC) (C : Addr) (name : Str) (f : Addr) : Prop where
 find : findIn p.K (.ref C) name = some (some (.ref f))
 type : typeIn p.K (.ref f) = some (.type "function")
 keep : keepIn p.K (.ref f) = true
 fn : fnIn p.K f = true
 bind : ∀ o, (∀ nm, ∃ r, lookIn nm o = some r) → lookIn name o = some none → findObj p.K C (some o) name = some (.bind (.builtin "function.__get__") (.ref f))
theorem MW.own {x C dx f : Addr} {es : List (Str × AV)} {ep : Nat} {name : Str} {pos : Pos} {args : List Expr} (e : st.σ x = some (.inst C dx)) (ed : st.σ dx = some (.dict es ep)) (hC : KCls p C) (hm : KMeth p C name f) (hn : aget es name = none)
   (H : AW p n b env (.ref f) pos args (fun as st1 => CW p n b env (.ref f) (.ref x :: as) Q X st1) X st) (hpl : (backTo pos (starEach args env)).any (·.1) = false := by rfl) : MW p n b env (.ref x) name pos args Q X st :=
 fun zw zw zw zw zw v pl hA S hv => by
   apply VR.onRef hv
   refine xEEAAAA (inst_at S e ed) fun o ds I ho D r hl => (method_fn S.inK I hC.ga hC.gm hm.find hm.type (by show (lookIn name o).map _ = _; rw [hl, (r.get name).2 hn]; rfl) (callWith_of (P := fun h => p.K.In h) (by rw [hpl]; rfl) (fun h hK => keeps_K hm.keep h hK) (H.use hA S (.refl _) fun ar s2 h2 as st2 k2 zw S2 ha H2 => ?_)))
   obtain ⟨ap, ak⟩ := ar
   refine xA ha fun ha1 ha2 => ?_
   obtain rfl : ak = [] := ha2
   exact ⟨S2.inK, GF.at (f := fun vs => call (.ref f) vs) (v := .ref x :: ap) H2 hA S2 (.cons (.ref _) ha1) k2⟩
end
section
theorem EW.named {target e : Expr} {pos : Pos} (H : EW p n b env e (fun a st1 => AsW p n b env target a (fun _ st2 => Q a st2) X st1) X st) : EW p n b env (.NamedExpr target e pos) Q X st :=
 GW.mk fun _ _ _ _ _ hA S => wpAny_NamedExpr (H.use hA S (.refl _) fun _ _ _ _ _ k1 _ S1 hv H1 =>
   wpAny_mono (H1 _ _ _ _ _ _ hA S1 hv) (fun _ _ z_ => z_.elim fun _ _ _ k2 S2 _ q => NP.mk S2 (k1.trans k2) (hv.mono k2) q) fun _ _ e => EP.mono k1 (fun _ _ z => z) e)
theorem AsW.sub {o i : Expr} {pos : Pos} {d : AV} {Q : Unit → St → Prop} (H : EW p n b env o (fun a st1 => EW p n b env i (fun c st2 => SIW p n b env a c d (Q ()) X st2) X st1) X st)
   (hi : ∀ iv v ov : Value, (match i with | .Slice _ _ none _ => [iv, v, ov] | _ => [v, ov, iv]) = [v, ov, iv] := by intros; rfl) : AsW p n b env (.Subscript o i pos) d Q X st :=
 GF.mk fun _ _ _ _ _ v hA S hv => by
   rw [assign_Subscript]
   exact wpAny_bind (wpAny_holding (H.use hA S (.refl _) fun _ _ _ _ _ k1 _ S1 hu H1 => wpAny_bind (wpAny_holding (H1.use hA S1 k1 fun _ _ _ _ _ k2 k12 S2 hw H2 => wpAny_bind (wpAny_standAt (wpAny_bind (wpAny_holding (wpAny_mono (H2.at hA S2 (hu.mono k12) hw (hv.mono k2) k2) (fun _ _ z_ => z_.elim fun _ y _ k3 S3 _ q => wpAny_releaseD (NP.mk S3 k3 (y := ()) trivial q)) fun _ _ e => e))))))))
theorem XW.assign2 {t₁ t₂ e : Expr} {pos : Pos} {Q : AF → St → Prop} (H : EW p n b env e (fun a st1 => AsW p n b env t₁ a (fun _ st2 => AsW p n b env t₂ a (fun _ st3 => Q .next st3) X st2) X st1) X st)
   (he : (assignEach [t₁, t₂] env).map (·.2) = [PySem.assign t₁ env, PySem.assign t₂ env] := by rfl) (hw : swappedStores [t₁, t₂] e env = pure none := by rfl) : XW p n b env (.Assign [t₁, t₂] e pos) Q X st :=
 GW.mk fun _ _ _ _ _ hA S => wpAny_Assign_two (H.use hA S (.refl _) fun _ _ _ _ _ k1 _ S1 hv H1 =>
   wpAny_mono (H1 _ _ _ _ _ _ hA S1 hv) (fun _ s2 z_ => z_.elim fun h2 _ st2 k2 S2 _ H2 =>
     wpAny_mono (H2 _ _ _ _ _ _ hA S2 (hv.mono k2)) (fun _ _ z_ => z_.elim fun _ _ _ k3 S3 _ q => NP.mk S3 ((k1.trans k2).trans k3) .next q) fun _ _ e => EP.mono (k1.trans k2) (fun _ _ z => z) e) fun _ _ e => EP.mono k1 (fun _ _ z => z) e) he hw
theorem XW.while {test : Expr} {body orelse : List Stmt} {pos : Pos} {Q : AF → St → Prop} (hb : b ≠ .comp) (I : Nat → St → Prop)
   (turn : ∀ m st, I m st → TW p n b env test (fun c st1 => if c then SW p n b env body (loopS (fun st2 => ∃ m', m' < m ∧ I m' st2) Q) X st1 else SW p n b env orelse Q X st1) X st)
   (m : Nat) (h : I m st) : XW p n b env (.While test body orelse pos) Q X st := by
 refine GW.mk fun A outer h₀ s hid hA S => (wpAny_While ?_)
 have pe : ∀ {h₄ x s₄}, EP p env.locals outer h₄ hid X x s₄ → Sub h₀ h₄ → notedBy (model p.prog p.w) A env (cameBackBy (model p.prog p.w) A env (EP p env.locals outer h₀ hid X)) x s₄ :=
   fun he k4 => passes_EP' hA hb _ _ (EP.mono k4 (fun _ _ z => z) he)
 refine codeAny_whileLoop (fun m s' => ∃ h₁ st', Sub h₀ h₁ ∧ Sat p env.locals outer h₁ s' st' hid ∧ I m st') ?_ m ⟨h₀, st, .refl _, S, h⟩
 intro m s' zz1; refine xEEAA zz1 fun h₁ st' k1 S1 hI => ?_
 refine wpAny_mono (turn m st' hI _ _ _ _ _ hA S1) (fun c s2 z_ => z_.elim fun h2 y st2 k2 S2 r q => ?_) fun x s2 he => pe he k1
 obtain rfl : y = c := r
 cases y with
 | true =>
   simp only [if_true] at q ⊢
   refine wpAny_mono (q _ _ _ _ _ hA S2) (fun f s3 z_ => z_.elim fun h3 y3 st3 k3 S3 r3 q3 => ?_) fun x s3 he => pe he (k1.trans k2)
   have kk := (k1.trans k2).trans k3
   cases r3 with
   | next => refine xEA q3 fun m' hm hI' => ?_; exact ⟨m', hm, h3, st3, kk, S3, hI'⟩
   | cont => refine xEA q3 fun m' hm hI' => ?_; exact ⟨m', hm, h3, st3, kk, S3, hI'⟩
   | brk => exact ⟨h3, _, st3, kk, S3, .next, q3⟩
   | ret hv => exact ⟨h3, _, st3, kk, S3, .ret hv, q3⟩
 | false =>
   simp only [Bool.false_eq_true, if_false] at q ⊢
   exact wpAny_mono (q _ _ _ _ _ hA S2) (fun f s3 z_ => z_.elim fun h3 y3 st3 k3 S3 r3 q3 => ⟨h3, y3, st3, (k1.trans k2).trans k3, S3, r3, q3⟩) fun x s3 he => pe he (k1.trans k2)
theorem AOK.mark {A : Around} {outer : List Env} {v : Value} (hb : b ≠ .comp) (hA : AOK n b A env outer) : AOK n .handler (A.mark (some v)) env outer :=
 ⟨by have := hA.frames; rw [if_neg hb] at this; exact this, fun h => (h rfl).elim, hA.depth, hA.units, hA.kind, fun _ => hA.frame hb, hA.glob, hA.bi⟩
theorem XW.tryB {T : String} {x : Str} {body : List Stmt} {b₀ : Stmt} {suite : List Stmt} {np hpos pos : Pos} {Q : AF → St → Prop} (hb : b ≠ .comp) (hg : nsIn p.K mainGlobals x = some none) (hv : bootBuiltins x = some (.type T))
   (hexc : isSubtype (.type T) (.type "BaseException") = pure true) (hnt : isSubtype (.type ((Manifest.find? T).elim "type" fun x => x.metatype)) (.type "tuple") = pure false)
   (H : SW p n b env body Q (fun cls st1 => ∃ Xn, cls = .type Xn ∧ isSubtype (.type Xn) (.type T) = pure true ∧ SW p n .handler env (b₀ :: suite) Q X st1) st)
   (hx : env.kindOf x = some .globalImplicit := by rfl) (hn : x ≠ "__name__" := by decide +kernel) (hd : (x == ("__debug__" : Str)) = false := by decide +kernel) :
   XW p n b env (.Try body [.ExceptHandler (some (.Name x np)) none (b₀ :: suite) hpos] [] [] pos) Q X st := by
 refine GW.mk fun A outer h₀ s hid hA S => ?_
 refine wpAny_Try_except (wpAny_mono (H _ _ _ _ _ hA S) (fun f s1 z_ => z_.elim fun h1 y st1 k1 S1 r q => ?_) fun x s1 zy1 => xEEEAAA zy1 fun h1 cls st1 k1 S1 hx1 q => ?_)
 · cases r with
   | next => exact wpAny_execs_nil ⟨h1, _, st1, k1, S1, .next, q⟩
   | brk => exact ⟨h1, _, st1, k1, S1, .brk, q⟩
   | cont => exact ⟨h1, _, st1, k1, S1, .cont, q⟩
   | ret hv => exact ⟨h1, _, st1, k1, S1, .ret hv, q⟩
 · revert q; intro zz3; refine xEAA zz3 fun Xn zz2 hsub q => ?_; subst zz2
   refine note_X hA hb S1 hx1 fun h2 S2 hx2 => (flight_X S2 hx2 fun h3 S3 hx3 => ?_)
   refine xEEEAAAAA (id hx3) fun e oe vs zz4 hu he hc hdt hcase => ?_; subst zz4
   have hM := hA.mark (v := .ref e) hb
   refine wpAny_handleBy_builtin (X := Xn) (T := T) (b := true) hexc hnt hsub (builtinName hM S3 hg hv hn ⟨rfl, ⟨oe, he, hc⟩, ?_⟩ hx hd)
   simp only [if_true]
   refine flight_X (A := A.mark (some (.ref e))) S3 hx3 fun h4 S4 hx4 => ?_
   refine wpAny_mono (q _ _ _ _ _ hM S4) (fun f s5 z_ => z_.elim fun h5 y5 st5 k5 S5 r5 q5 => ⟨h5, y5, st5, k1.trans k5, S5, r5, q5⟩) fun x s5 he => passes_EP hM (by decide) _ _ (EP.mono k1 (fun _ _ z => z) he)
theorem XW.tryK {C : Addr} {bmB : List Value} {newId : String} {x : Str} {body : List Stmt} {b₀ : Stmt} {suite : List Stmt} {np hpos pos : Pos} {Q : AF → St → Prop} (hb : b ≠ .comp) (hg : nsIn p.K mainGlobals x = some (some (.ref C)))
   (O : OwnClsQ x C bmB newId p.mg p.base) (hbase : bmB.contains (.type "BaseException") = true)
   (H : SW p n b env body Q (fun cls st1 => cls = .ref C ∧ SW p n .handler env (b₀ :: suite) Q X st1) st)
   (hx : env.kindOf x = some .globalImplicit := by rfl) (hd : (x == ("__debug__" : Str)) = false := by decide +kernel) :
   XW p n b env (.Try body [.ExceptHandler (some (.Name x np)) none (b₀ :: suite) hpos] [] [] pos) Q X st := by
 refine GW.mk fun A outer h₀ s hid hA S => ?_
 refine wpAny_Try_except (wpAny_mono (H _ _ _ _ _ hA S) (fun f s1 z_ => z_.elim fun h1 y st1 k1 S1 r q => ?_) fun x s1 zy2 => xEEEAAA zy2 fun h1 cls st1 k1 S1 hx1 q => ?_)
 · cases r with
   | next => exact wpAny_execs_nil ⟨h1, _, st1, k1, S1, .next, q⟩
   | brk => exact ⟨h1, _, st1, k1, S1, .brk, q⟩
   | cont => exact ⟨h1, _, st1, k1, S1, .cont, q⟩
   | ret hv => exact ⟨h1, _, st1, k1, S1, .ret hv, q⟩
 · revert q; intro zz6; refine xA zz6 fun zz5 q => ?_; subst zz5
   refine note_X hA hb S1 hx1 fun h2 S2 hx2 => (flight_X S2 hx2 fun h3 S3 hx3 => ?_)
   refine xEEEAAAAA (id hx3) fun e oe vs zz7 hu he hc hdt hcase => ?_; subst zz7
   have hM := hA.mark (v := .ref e) hb
   refine handleBy_own hbase (Name_function_global hM.kind hx (loadGlobal_global (hM.glob ▸ p.hT.g.keeps (S3.base.trans S3.sub)) (mg_of p.hK p.hT.g hg) ⟨rfl, O.keeps (S3.base.trans S3.sub), ⟨oe, he, hc⟩, (flight_X (A := A.mark (some (.ref e))) S3 hx3 fun h4 S4 hx4 => ?_)⟩) hd)
   refine wpAny_mono (q _ _ _ _ _ hM S4) (fun f s5 z_ => z_.elim fun h5 y5 st5 k5 S5 r5 q5 => ⟨h5, y5, st5, k1.trans k5, S5, r5, q5⟩) fun x s5 he => passes_EP hM (by decide) _ _ (EP.mono k1 (fun _ _ z => z) he)
theorem unt_new {L : Addr} {outer : List Env} {h₀ : Heap} {s : Shared} {hid : Hid} (S : Sat p L outer h₀ s st hid) {e : Addr} (h : s.heap.get? e = none) : Unt h₀ L st hid e := by
 refine ⟨?_, ?_⟩
 · cases q : h₀.get? e with
   | none => rfl
   | some o => rw [S.sub _ _ q] at h; exact xsn h
 · cases q : priv L st hid e with
   | false => rfl
   | true =>
     exfalso
     unfold priv at q
     simp only [Bool.or_eq_true, beq_iff_eq] at q
     rcases q with (rfl | q) | q
     · refine xEA S.loc fun m zz8 _ => ?_; obtain ⟨o, _, _, z, _⟩ := zz8; rw [z] at h; exact xsn h
     · refine xE (Option.isSome_iff_exists.mp q) fun o z => (xE ((S.obj e o z).1.there) fun ob z2 => ?_)
       rw [z2] at h; exact xsn h
     · refine xE (Option.isSome_iff_exists.mp q) fun o z => (xE ((S.hidd e o z).1.there) fun ob z2 => ?_)
       rw [z2] at h; exact xsn h
theorem made_EP {L : Addr} {outer : List Env} {h₀ h₁ : Heap} {s : Shared} {hid : Hid} {e t : Addr} {cls : Value} {h' : Heap} (S : Sat p L outer h₁ s st hid) (k : Sub h₀ h₁) (hk : Sub s.heap h') (hn : s.heap.get? e = none)
   (he : h'.get? e = some { cls := cls, data := .fields #[.ref t, .none, .none, .none, .bool false, .none] }) (q : X cls st) : EP p L outer h₀ hid X (.ref e) { s with heap := h' } :=
 ⟨h₁, cls, st, k, S.grow hk rfl S.gens, ⟨e, _, _, rfl, unt_new S hn, he, rfl, rfl, .inl ⟨trivial, rfl⟩⟩, q⟩
theorem XW.raiseB {cls newId initId : String} {x : Str} {np cpos pos : Pos} {args : List Expr} {Q : AF → St → Prop} (F : ExcCallFacts cls newId initId) (G : ExcRaiseFacts cls) (hb : b ≠ .handler) (hg : nsIn p.K mainGlobals x = some none) (hv : bootBuiltins x = some (.type cls))
   (H : AW p n b env (.type cls) cpos args (fun as st1 => X (.type cls) st1 ∧ as.length ≤ 16777216) X st) (hpl : (backTo cpos (starEach args env)).any (·.1) = false := by rfl)
   (hx : env.kindOf x = some .globalImplicit := by rfl) (hn : x ≠ "__name__" := by decide +kernel) (hd : (x == ("__debug__" : Str)) = false := by decide +kernel) : XW p n b env (.Raise (some (.Call (.Name x np) args [] cpos)) none pos) Q X st :=
 GW.mk fun _ _ _ _ _ hA S => by
   exact wpAny_Raise_call F G (hA.handled hb) hpl (builtinName hA S hg hv hn ⟨rfl, H.use hA S (.refl _) fun ar s2 h2 as st2 k2 _ S2 ha H2 => (⟨ha.2, by rw [ha.1.length, sizeLine_val]; exact H2.2, fun h' e hm => let ⟨t, he, _⟩ := hm.there; made_EP S2 k2 hm.keeps hm.new he H2.1⟩)⟩ hx hd)
theorem XW.raiseK {C : Addr} {B newId initId : String} {bm : List Value} {x : Str} {np cpos pos : Pos} {args : List Expr} {Q : AF → St → Prop} (O : OwnCls x C bm newId p.mg p.base) (FB : ExcBaseFacts B newId initId bm) (hb : b ≠ .handler) (hg : nsIn p.K mainGlobals x = some (some (.ref C)))
   (H : AW p n b env (.ref C) cpos args (fun as st1 => X (.ref C) st1 ∧ as.length ≤ 16777216) X st) (hpl : (backTo cpos (starEach args env)).any (·.1) = false := by rfl)
   (hx : env.kindOf x = some .globalImplicit := by rfl) (hd : (x == ("__debug__" : Str)) = false := by decide +kernel) : XW p n b env (.Raise (some (.Call (.Name x np) args [] cpos)) none pos) Q X st :=
 GW.mk fun _ _ _ _ _ hA S => by
   refine xEEEEEEEEEEEEEEEEEAAA O.obj fun tl N nm q bs hdct sn sub ab col dd k0 k1 k2 k3 k5 mN hC hN hni T => ?_
   refine wpAny_Raise_call_subT (C := C) (nm := nm) (q := q) (N := N) (bs := bs) (bm := tl) (hdct := hdct) (sn := sn) (sub := sub) (ab := ab) (col := col) (dd := dd) (k0 := k0) (k1 := k1) (k2 := k2) (k3 := k3) (k5 := k5)
     FB (mN := mN) (T.hasType FB.hasBase) (hA.handled hb) hpl hni (Name_function_global hA.kind hx (loadGlobal_global (hA.glob ▸ p.hT.g.keeps (S.base.trans S.sub)) (mg_of p.hK p.hT.g hg)
       ⟨rfl, H.use hA S (.refl _) fun ar s2 h2 as st2 k2' _ S2 ha H2 => ?_⟩) hd)
   have kk := S2.base.trans S2.sub
   exact ⟨ha.2, by rw [ha.1.length, sizeLine_val]; exact H2.2, kk _ _ hC, hN.keeps kk, T.keeps kk, fun h' e hm => let ⟨t, he, _⟩ := hm.there; made_EP S2 k2' hm.keeps hm.new he H2.1⟩
end
section
open PySem PySem.W PyProof.Rows PySem.Calls Builtin
noncomputable abbrev iterObj (l : Addr) (i : Int) : Obj := { cls := .type "list_iterator", data := .fields #[.ref l, .int i 0] }
noncomputable abbrev wrapObj (it : Addr) : Obj := { cls := .type "method-wrapper", data := .fields #[.builtin "list_iterator.__next__", .ref it] }
theorem li_ga : typeLookup (.type "list_iterator") "__getattribute__" = pure (some (.builtin "object.__getattribute__")) := by rw [typeLookup_type, builtinLookup_eq_fast]; kernel_rfl
theorem li_gm : typeLookup (.type "list_iterator") "__getattr__" = pure none := by rw [typeLookup_type, builtinLookup_eq_fast]; kernel_rfl
theorem wd_get : typeLookup (.type "wrapper_descriptor") "__get__" = pure (some (.builtin "wrapper_descriptor.__get__")) := by rw [typeLookup_type, builtinLookup_eq_fast]; kernel_rfl
theorem wd_set : typeLookup (.type "wrapper_descriptor") "__set__" = pure none := by rw [typeLookup_type, builtinLookup_eq_fast]; kernel_rfl
theorem wd_del : typeLookup (.type "wrapper_descriptor") "__delete__" = pure none := by rw [typeLookup_type, builtinLookup_eq_fast]; kernel_rfl
theorem type_li_next : typeOf (.builtin "list_iterator.__next__") = pure (.type "wrapper_descriptor") := by show builtinType _ = _; rw [builtinType_eq_fast]; kernel_rfl
theorem slot_li_ga : Slot "list_iterator" "__getattribute__" "object.__getattribute__" :=
 Slot.of (owner := "object") (n := "__getattribute__") li_ga (by decide +kernel) (by decide +kernel) (by decide +kernel) (.inl (by decide +kernel)) (by rw [isSubtype_type]; kernel_rfl)
theorem entry_li_ga : entryFor table "object.__getattribute__" = some Builtin.«object.__getattribute__» := entryFor_of_tree (by kernel_rfl)
theorem args_li_ga (a b : Value) : argsOk "object.__getattribute__" ⟨[a, b], []⟩ := by unfold argsOk; kernel_rfl
theorem slot_wd_get : Slot "wrapper_descriptor" "__get__" "wrapper_descriptor.__get__" :=
 Slot.of (owner := "wrapper_descriptor") (n := "__get__") wd_get (by decide +kernel) (by decide +kernel) (by decide +kernel) (.inl (by decide +kernel)) (by rw [isSubtype_type]; kernel_rfl)
theorem entry_wd_get : entryFor table "wrapper_descriptor.__get__" = some Builtin.«wrapper_descriptor.__get__» := entryFor_of_tree (by kernel_rfl)
theorem args_wd_get (a b c : Value) : argsOk "wrapper_descriptor.__get__" ⟨[a, b, c], []⟩ := by unfold argsOk; kernel_rfl
variable {prog : Program} {w : World} {A : Around} {E : Value → Shared → Prop} {s : Shared}
theorem getAttr_next {it l : Addr} {i : Int} {Q : Value → Shared → Prop} (hx : s.heap.get? it = some (iterObj l i))
   (h : Q (.ref s.heap.objs.size) { s with heap := s.heap.push (wrapObj it), toks := s.toks + 1 }) : wpAny (model prog w) A (getAttr (.ref it) "__next__" true) Q E s := by
 obtain ⟨hp, g, d, tk, os⟩ := s
 have hT : ∀ tk', (⟨hp, g, d, tk', os⟩ : Shared).TypeIs (.ref it) "list_iterator" := fun zw => ⟨_, hx, rfl⟩
 have f3 := li_ga
 have f4 := slot_li_ga.bind (.ref it)
 have f5 := li_gm
 unfold getAttr getAttrBy
 repeat (any_goals (first | assumption | exact hT _ | wp_step))
 refine codeAny_call_builtin slot_li_ga.plain entry_li_ga (slot_li_ga.check _ _ _ _ _ _ _ _ (hT _) (args_li_ga _ _) ?_)
 have g1 := slot_listiter_next.lookup
 have g2 := type_li_next
 have g3 := wd_get
 have g4 := wd_set
 have g5 := wd_del
 show wpAny _ _ (do
   let tp ← typeOf (.ref it)
   match ← Builtin.ObjectAttr.find (.ref it) tp "__next__" with
   | .value v => ret v
   | .bind g a => Builtin.ObjectAttr.bindTo g a (.ref it) tp
   | .missing => _) _ _ _
 have L0 : ∀ M, Looks M hp (typeOf (.ref it)) (.type "list_iterator") := fun M => (Looks.ld (part := none) hx).andThen .now
 have L1 : ∀ M, Looks M hp (Builtin.ObjectAttr.find (.ref it) (.type "list_iterator") "__next__") (.bind (.builtin "wrapper_descriptor.__get__") (.builtin "list_iterator.__next__")) := by
   intro M
   unfold Builtin.ObjectAttr.find
   refine (Looks.of_pure g1).andThen ((show Looks M hp (Builtin.ObjectAttr.getOf _) (some (.builtin "wrapper_descriptor.__get__")) from (Looks.of_pure g2).andThen (Looks.of_pure g3)).andThen ?_)
   have LA : Looks M hp (specialOf (.builtin "list_iterator.__next__") "__set__") none := (Looks.of_pure g2).andThen (Looks.of_pure g4)
   have LB : Looks M hp (specialOf (.builtin "list_iterator.__next__") "__delete__") none := (Looks.of_pure g2).andThen (Looks.of_pure g5)
   have LT : Looks M hp (Builtin.ObjectAttr.takesStores (.builtin "list_iterator.__next__")) false := LA.andThen (LB.andThen .now)
   have LD : Looks M hp (Builtin.ObjectAttr.dataDescriptor? (some (.builtin "list_iterator.__next__")) (some (.builtin "wrapper_descriptor.__get__"))) none := LT.andThen .now
   refine LD.andThen ?_
   unfold Builtin.ObjectAttr.ownThenClass
   refine (show Looks M hp (Builtin.ObjectAttr.inOwnDict _ _) none from ?_).andThen ?_
   · exact (show Looks M hp (Builtin.ObjectAttr.ownDict it) none from (Looks.ld hx).andThen ((Looks.ld hx).andThen .now)).andThen .now
   · exact (show Looks M hp (Builtin.ObjectAttr.copiedAttributeGuard _ _) () from Looks.of_pure (by kernel_rfl)).andThen (Looks.tag .now)
 refine wpAny_bind ((L0 _).here (wpAny_bind ((L1 _).here ?_)))
 show wpAny _ _ (holding _ (call (.builtin "wrapper_descriptor.__get__") [.builtin "list_iterator.__next__", .ref it, .type "list_iterator"]) >>= ret) _ _ _
 refine wpAny_bind (wpAny_holding (wpAny_call (codeAny_call_builtin slot_wd_get.plain entry_wd_get (slot_wd_get.check _ _ _ _ _ _ _ _ g2 (args_wd_get _ _ _) ?_))))
 repeat k_node
 exact h
theorem call_wrap {it wr : Addr} {R : Result → Shared → Prop} (hw : s.heap.get? wr = some (wrapObj it))
   (h : wpAny (model prog w) A.in1 (Builtin.«list_iterator.__next__» ⟨[.ref it], []⟩) (fun fin s' => match fin with | .done f => R (.ok f) s' | .again c' => c'.quiet = true ∧ codeAny (model prog w) A c' R s') (fun e s' => R (.error e) s') s) :
   codeAny (model prog w) A (.call (.ref wr) ⟨[], []⟩) R s := by
 obtain ⟨hp, g, d, tk, os⟩ := s
 refine codeAny_of_tree ?_
 show wpAny _ _ (callAny (.ref wr) _) _ _ _
 refine nd_load hw ?_
 show wpAny _ _ (do checkBoundCall "list_iterator.__next__" ⟨[.ref it], []⟩; again (.builtin "list_iterator.__next__" ⟨[.ref it], []⟩)) _ _ _
 have hc : checkBoundCall "list_iterator.__next__" ⟨[.ref it], []⟩ = pure () := by kernel_rfl
 rw [hc]
 refine wpAny_bind (wpAny_pure (wpAny_pure ⟨plainId_quiet slot_listiter_next.plain _, codeAny_builtin entry_listiter_next ?_⟩))
 rw [Around.under_plainId slot_listiter_next.plain _]
 exact h
theorem entry_iter : entryFor table "iter" = some Builtin.«iter» := entryFor_of_tree (by kernel_rfl)
theorem check_iter (v : Value) : checkBuiltinCall "iter" ⟨[v], []⟩ = pure () := by kernel_rfl
theorem next_item {it l : Addr} {i : Int} {vs : List Value} {k : Nat} {x : Value} {Q : Fin → Shared → Prop} (ho : s.heap.get? it = some (iterObj l i)) (hl : s.heap.get? l = some (lstObj vs k)) (hx : vs[i.toNat]? = some x)
   (hQ : ∀ h', h'.get? it = some (iterObj l (i + 1)) → Heap.SameBut it s.heap h' → Q (.done (.ret x)) { s with heap := h' }) : wpAny (model prog w) A (Builtin.«list_iterator.__next__» ⟨[.ref it], []⟩) Q E s := by
 show wpAny _ _ (field (.ref it) 0 >>= _) _ _ s
 refine wpAny_bind (wpAny_field ho rfl (x := .ref l) rfl ?_)
 show wpAny _ _ (if (Value.ref l == Value.none) = true then _ else _) _ _ s
 rw [if_neg (show ¬ ((Value.ref l == Value.none) = true) from Bool.false_ne_true)]
 show wpAny _ _ (field (.ref it) 1 >>= _) _ _ s
 refine wpAny_bind (wpAny_field ho rfl (x := .int i 0) rfl ?_)
 show wpAny _ _ (seqItems? (.ref l) >>= _) _ _ s
 refine wpAny_bind (wpAny_seqItems hl rfl ?_)
 simp only [List.getElem?_toArray, hx]
 exact wpAny_bind (wpAny_setField ho rfl (by simp) (wpAny_pure (hQ _ ((Heap.get?_update_self _ ho rfl).trans (by simp [Obj.mapFields, rawInt])) (Heap.SameBut.update ..))))
theorem next_stop {it l : Addr} {i : Int} {vs : List Value} {k : Nat} {Q : Fin → Shared → Prop} (hh : A.handled = none) (ho : s.heap.get? it = some (iterObj l i)) (hl : s.heap.get? l = some (lstObj vs k)) (hx : vs[i.toNat]? = none)
   (hQ : ∀ h' e oe ws, Heap.ExtBut it s.heap h' → s.heap.get? e = none → h'.get? e = some oe → oe.cls = .type "StopIteration" → oe.data = .fields ws → ws[1]? = some .none → E (.ref e) { s with heap := h' }) : wpAny (model prog w) A (Builtin.«list_iterator.__next__» ⟨[.ref it], []⟩) Q E s := by
 show wpAny _ _ (field (.ref it) 0 >>= _) _ _ s
 refine wpAny_bind (wpAny_field ho rfl (x := .ref l) rfl ?_)
 show wpAny _ _ (if (Value.ref l == Value.none) = true then _ else _) _ _ s
 rw [if_neg (show ¬ ((Value.ref l == Value.none) = true) from Bool.false_ne_true)]
 show wpAny _ _ (field (.ref it) 1 >>= _) _ _ s
 refine wpAny_bind (wpAny_field ho rfl (x := .int i 0) rfl ?_)
 show wpAny _ _ (seqItems? (.ref l) >>= _) _ _ s
 refine wpAny_bind (wpAny_seqItems hl rfl ?_)
 simp only [List.getElem?_toArray, hx]
 refine wpAny_bind (wpAny_rule (wpAny_bind (wpAny_setField ho rfl (by simp) ?_)))
 show wpAny _ _ (newExc (.type "StopIteration") [] >>= _) _ _ _
 refine wpAny_bind ?_
 simp only [newExc, newTuple]
 refine wpAny_bind (wpAny_newObj_type (wpAny_bind (m := firstArgMember _ _) (wpAny_of_eq (a := Value.none) (by first | rfl | (simp only [firstArgMember]; rfl)) (wpAny_newObj_type ?_ (by size_fits)))) (by size_fits))
 simp only [raiseNew]
 refine wpAny_bind (wpAny_handled ?_)
 rw [hh]
 refine wpAny_bind (wpAny_pure (wpAny_throw (hQ _ _ _ _ (((Heap.SameBut.update ..).extBut.push _).push _) (Heap.get?_none_of_le ?_) (Heap.get?_push_size _ rfl) rfl rfl rfl)))
 simp
section
theorem call_iter {l : Addr} {vs : List AV} (e : st.σ l = some (.list vs)) (h : ∀ it, st.σ it = none → Q (.ref it) (st.put it (.raw (iterObj l 0)))) : CW p n b env (.builtin "iter") [.ref l] Q X st :=
 GF.mk fun zw zw zw s zw zw zw S hv => by
   refine xEA hv.one fun v zz1 hv1 => ?_; subst zz1
   apply VR.onRef hv1
   refine xEEA ((S.obj _ _ e).1) fun ws k e1 r => (wpAny_call (codeAny_call_builtin (show plainId "iter" = true by decide +kernel) (entry_iter) ?_))
   rw [check_iter]
   exact wpAny_pure (wpAny_bind (m := someArgs "iter" 1 2 _) (wpAny_of_eq (a := [Value.ref l]) (by kernel_rfl) (wpAny_bind (wpAny_pyIter_list (lst_is e1) (xA (S.pushO (s' := { s with heap := s.heap.push (iterObj l 0) }) (.raw (iterObj l 0)) rfl rfl rfl (Heap.get?_push_size _ rfl)) fun f S' => (wpAny_pure (NP.mk S' (.refl _) (.ref _) (h _ f))))))))
theorem ga_next {it l : Addr} {i : Int} (e : st.σ it = some (.raw (iterObj l i))) (h : ∀ wr, st.σ wr = none → Q (.ref wr) (st.put wr (.raw (wrapObj it)))) : GA p n b env (.ref it) (Str.ofString "__next__") Q X st :=
 GF.mk fun zw zw zw s zw zw zw S hv => by
   apply VR.onRef hv
   have e1 : s.heap.get? it = some (iterObj l i) := (S.obj _ _ e).1
   exact getAttr_next e1 (xA (S.pushO (s' := { s with heap := s.heap.push (wrapObj it), toks := s.toks + 1 }) (.raw (wrapObj it)) rfl rfl rfl (Heap.get?_push_size _ rfl)) fun f S' => (NP.mk S' (.refl _) (.ref _) (h _ f)))
theorem call_next {wr it l : Addr} {i : Int} {vs : List AV} {a : AV} (ew : st.σ wr = some (.raw (wrapObj it))) (ei : st.σ it = some (.raw (iterObj l i))) (el : st.σ l = some (.list vs)) (ha : vs[i.toNat]? = some a)
   (h : Q a (st.put it (.raw (iterObj l (i + 1))))) : CW p n b env (.ref wr) [] Q X st :=
 GF.mk fun zw zw zw s zw zw zw S hv => by
   apply VRs.onNil hv
   have e1 : s.heap.get? wr = some (wrapObj it) := (S.obj _ _ ew).1
   have e2 : s.heap.get? it = some (iterObj l i) := (S.obj _ _ ei).1
   exact xEEA ((S.obj _ _ el).1) fun ws k e3 r => (xEA (r.get ha) fun x e4 e5 => (wpAny_call (call_wrap e1 (next_item e2 e3 e4 fun h' e' hs => (NP.mk (S.setO (s' := { s with heap := h' }) (ao' := .raw (iterObj l (i + 1))) ei hs rfl rfl e') (.refl _) e5 h)))))
theorem call_stop {wr it l : Addr} {i : Int} {vs : List AV} (hb : b ≠ .handler) (ew : st.σ wr = some (.raw (wrapObj it))) (ei : st.σ it = some (.raw (iterObj l i))) (el : st.σ l = some (.list vs)) (ha : vs[i.toNat]? = none)
   (h : X (.type "StopIteration") (st.del it)) : CW p n b env (.ref wr) [] Q X st :=
 GF.mk fun zw zw h₀ s hid zw hA S hv => by
   apply VRs.onNil hv
   have e1 : s.heap.get? wr = some (wrapObj it) := (S.obj _ _ ew).1
   have e2 : s.heap.get? it = some (iterObj l i) := (S.obj _ _ ei).1
   refine xEEA ((S.obj _ _ el).1) fun ws k e3 r => ?_
   refine wpAny_call (call_wrap e1 (next_stop (hA.handled hb) e2 e3 ?_ fun h' e oe us hx hn he hc hd h1 => ?_))
   · rw [List.getElem?_eq_none_iff] at ha ⊢
     rw [r.length]; exact ha
   · have S1 := S.forget (st' := st.del it) (fun zw zw z => z) fun x o z => (era_some z).2
     have hu : Unt h₀ env.locals (st.del it) hid it := ⟨(S.obj _ _ ei).2.1, priv_false.mpr ⟨(by intro z; rw [z, S.locS] at ei; exact xns ei), era_same _ _, (S.obj _ _ ei).2.2⟩⟩
     exact ⟨h₀, _, st.del it, .refl _, S1.extB hu hx rfl rfl, ⟨e, oe, us, rfl, unt_new S1 hn, he, hc, hd, .inl ⟨trivial, h1⟩⟩, h⟩
theorem EW.callE {f : Expr} {pos : Pos} {wr it : Addr} (H : EW p n b env f (fun a st1 => a = .ref wr ∧ st1.σ wr = some (.raw (wrapObj it)) ∧ CW p n b env (.ref wr) [] Q X st1) X st)
   (he : eval (.Call f [] [] pos) env = (do callWith pos (← eval f env) [] (backTo pos (starEach [] env)) (backToKw pos (keywordEach [] env))) := by rfl) : EW p n b env (.Call f [] [] pos) Q X st :=
 GW.mk fun zw zw zw zw zw hA S => by
   rw [he]
   refine wpAny_bind (H.use hA S (.refl _) fun v s1 h1 a st1 k1 zw S1 hv zy1 => xAA zy1 fun q1 q2 q3 => ?_)
   subst q1
   apply VR.onRef hv
   exact callWith_of (P := fun h => h.get? wr = some (wrapObj it)) rfl (fun h hh => ⟨.machine, .inr (.inl rfl), (Looks.ld (part := none) hh).andThen .now⟩) (evalArgs_nil3 ⟨(S1.obj _ _ q2).1, (GF.at (f := fun vs => call (.ref wr) vs) (v := []) q3 hA S1 .nil k1)⟩)
end
end
section
theorem DRs.at {h : Heap} {es : List (Str × AV)} {ds : List (Str × Value)} (r : DRs h es ds) {i : Nat} {k : Str} {a : AV} (e : es[i]? = some (k, a)) : ∃ v, ds[i]? = some (k, v) ∧ VR h a v := by
 induction r generalizing i with
 | nil => simp at e
 | cons hv _ ih =>
   cases i with
   | zero => simp only [List.getElem?_cons_zero, Option.some.injEq, Prod.mk.injEq] at e; refine xA e fun zz1 zz2 => ?_; subst zz1; subst zz2; exact ⟨_, rfl, hv⟩
   | succ i => simp only [List.getElem?_cons_succ] at e ⊢; exact ih e
noncomputable abbrev kitObj (d : Addr) (m ep : Nat) : Obj := { cls := .type "dict_keyiterator", data := .fields #[.ref d, .int 0 0, .int m 0, .int ep 0] }
theorem iter_dict {target : Expr} {d : Addr} {es : List (Str × AV)} {ep : Nat} (e : st.σ d = some (.dict es ep)) : IterW p n b env target (.ref d) (es.map fun x => .str x.1) (fun σ => σ d = some (.dict es ep)) st := by
 intro A outer h₀ s hid v E P hA S hv K
 apply VR.onRef hv
 refine xEAA ((S.obj _ _ e).1) fun ds D r z => (wpAny_pyIter_dict z D (xA (S.pushH (s' := { s with heap := s.heap.push (kitObj d ds.length ep) }) (o := kitObj d ds.length ep) rfl rfl rfl rfl) fun hno S1 => ?_))
 have hl := r.length
 refine K _ _ (.ref s.heap.objs.size) [s.heap.objs.size] [_] (fun rest os => ∃ (i : Nat) (o : Obj), os = [o] ∧ o.cls = .type "dict_keyiterator" ∧ o.data = .fields #[.ref d, .int i 0, .int es.length 0, .int ep 0] ∧ (es.drop i).map (fun x => AV.str x.1) = rest) (.refl _) ?_ (by simpa using hno) rfl ⟨0, _, rfl, rfl, by rw [← hl]; rfl, rfl⟩ S1
 refine ⟨by simp, ?_, ?_, ?_⟩
 · intro v' r' os A' L' outer' h₁ s₁ st₁ hid' E' P' zz3 hh hf S1 kk hG K1; refine xEEAAA zz3 fun i o zz4 hc hd' hr => ?_; subst zz4
   replace S1 : Sat p L' outer' h₁ s₁ st₁ (upd hid' s.heap.objs.size (.raw o)) := S1
   refine xEAA ((S1.obj _ _ hG).1) fun ds' D' r1 z' => ?_
   have hl' := r1.length
   cases hq : es.drop i with
   | nil => rw [hq] at hr; exact xnc hr
   | cons kv rest =>
     rw [hq] at hr
     simp only [List.map_cons, List.cons.injEq] at hr
     refine xA hr fun hr1 hr2 => (xA (drop_cons hq) fun hx hr' => ?_)
     obtain ⟨k, a⟩ := kv
     refine xEA (r1.at hx) fun u hu1 hu2 => ?_
     have ho := (S1.hidd _ _ (upd_same hid' s.heap.objs.size (HC.raw o))).1
     refine wpAny_pyNext_dict_item ⟨o, ho, hc, by rw [hl']; exact hd'⟩ D' hu1 fun key h' hkey hit hs => ⟨key, rfl, ?_⟩
     refine xEAA hit fun o' ho' hc' hd'' => (letOwned_other (nm := "dict_keyiterator") ho' hc' (by decide) ?_)
     have S2 := S1.setH (s' := { s₁ with heap := h' }) (upd_same hid' s.heap.objs.size (HC.raw o)) hs ho' rfl rfl
     rw [upd_upd] at S2
     refine xE (Value.isStrOf_shape hkey) fun t zz5 => ?_; subst zz5
     refine K1 _ _ [o'] _ (.refl _) ⟨i + 1, o', rfl, hc', by rw [← hl']; exact hd'', by rw [hr']; exact hr2⟩ S2 ?_
     rw [← hr1]; exact .str _ _
 · intro l' os A' L' outer' h₁ s₁ st₁ hid' E' P' zz6 hf S1 hP; refine xEEAAA zz6 fun i o zz7 hc hd' hr => ?_; subst zz7
   exact wpAny_pyIter_keyiter ⟨o, (S1.hidd _ _ (upd_same hid' s.heap.objs.size (HC.raw o))).1, hc, hd'⟩ hP
 · intro os A' L' outer' h₁ s₁ st₁ hid' E' P' zz8 hh hf S1 kk hG K1; refine xEEAAA zz8 fun i o zz9 hc hd' hr => ?_; subst zz9
   replace S1 : Sat p L' outer' h₁ s₁ st₁ (upd hid' s.heap.objs.size (.raw o)) := S1
   refine xEAA ((S1.obj _ _ hG).1) fun ds' D' r1 z' => ?_
   have hl' := r1.length
   have ho := (S1.hidd _ _ (upd_same hid' s.heap.objs.size (HC.raw o))).1
   have hn : ds'[i]? = none := by
     have : es.drop i = [] := by simpa using hr
     rw [List.drop_eq_nil_iff] at this
     rw [List.getElem?_eq_none_iff]; lia
   refine wpAny_pyNext_dict_end hh ⟨o, ho, hc, by rw [hl']; exact hd'⟩ D' hn fun h' hs => ⟨rfl, ?_⟩
   exact xA (S1.unhide (hf _ (.head _))) fun S2 u => (K1 _ _ (.refl _) (S2.extB (s' := { s₁ with heap := h' }) u hs rfl rfl))
noncomputable abbrev viewObj (d : Addr) : Obj := { cls := .type "dict_values", data := .fields #[.ref d] }
theorem call_values {d : Addr} {es : List (Str × AV)} {ep : Nat} (e : st.σ d = some (.dict es ep)) (h : ∀ v, st.σ v = none → Q (.ref v) (st.put v (.raw (viewObj d)))) : CW p n b env (.builtin "dict.values") [.ref d] Q X st :=
 GF.mk fun _ _ _ s _ _ _ S hv => by
   refine xEA hv.one fun v zz10 hv1 => ?_; subst zz10
   apply VR.onRef hv1
   exact xEAA ((S.obj _ _ e).1) fun ds D r z => (xA (S.pushO (s' := { s with heap := s.heap.push (viewObj d) }) (.raw (viewObj d)) rfl rfl rfl (Heap.get?_push_size _ rfl)) fun f S' => (call_meetsIn F.slot_dict_values D.dictOf.typeIs F.entry_dict_values (F.args_dict_values_1 _) (meets_dict_values (PySem.strKind p.prog p.w) d z) ⟨⟨_, D.dictOf⟩, NP.mk S' (.refl _) (.ref _) (h _ f)⟩))
noncomputable abbrev vitObj (d : Addr) (m ep : Nat) : Obj := { cls := .type "dict_valueiterator", data := .fields #[.ref d, .int 0 0, .int m 0, .int ep 0] }
theorem iter_values {target : Expr} {w d : Addr} {es : List (Str × AV)} {ep : Nat} (ew : st.σ w = some (.raw (viewObj d))) (e : st.σ d = some (.dict es ep)) : IterW p n b env target (.ref w) (es.map fun x => x.2) (fun σ => σ d = some (.dict es ep)) st := by
 intro A outer h₀ s hid v E P hA S hv K
 apply VR.onRef hv
 refine xEAA ((S.obj _ _ e).1) fun ds D r z => ?_
 have eW : s.heap.get? w = some (viewObj d) := (S.obj _ _ ew).1
 refine wpAny_pyIter_values ⟨_, eW, rfl, rfl⟩ D (xA (S.pushH (s' := { s with heap := s.heap.push (vitObj d ds.length ep) }) (o := vitObj d ds.length ep) rfl rfl rfl rfl) fun hno S1 => ?_)
 have hl := r.length
 refine K _ _ (.ref s.heap.objs.size) [s.heap.objs.size] [_] (fun rest os => ∃ (i : Nat) (o : Obj), os = [o] ∧ o.cls = .type "dict_valueiterator" ∧ o.data = .fields #[.ref d, .int i 0, .int es.length 0, .int ep 0] ∧ (es.drop i).map (fun x => x.2) = rest) (.refl _) ?_ (by simpa using hno) rfl ⟨0, _, rfl, rfl, by rw [← hl]; rfl, rfl⟩ S1
 refine ⟨by simp, ?_, ?_, ?_⟩
 · intro v' r' os A' L' outer' h₁ s₁ st₁ hid' E' P' zz11 hh hf S1 kk hG K1; refine xEEAAA zz11 fun i o zz12 hc hd' hr => ?_; subst zz12
   replace S1 : Sat p L' outer' h₁ s₁ st₁ (upd hid' s.heap.objs.size (.raw o)) := S1
   refine xEAA ((S1.obj _ _ hG).1) fun ds' D' r1 z' => ?_
   have hl' := r1.length
   cases hq : es.drop i with
   | nil => rw [hq] at hr; exact xnc hr
   | cons kv rest =>
     rw [hq] at hr
     simp only [List.map_cons, List.cons.injEq] at hr
     refine xA hr fun hr1 hr2 => (xA (drop_cons hq) fun hx hr' => ?_)
     obtain ⟨k, a⟩ := kv
     refine xEA (r1.at hx) fun u hu1 hu2 => ?_
     have ho := (S1.hidd _ _ (upd_same hid' s.heap.objs.size (HC.raw o))).1
     refine wpAny_pyNext_values_item ⟨o, ho, hc, by rw [hl']; exact hd'⟩ D' hu1 fun h' hit hs => ⟨u, rfl, ?_⟩
     refine xEAA hit fun o' ho' hc' hd'' => (letOwned_other (nm := "dict_valueiterator") ho' hc' (by decide) ?_)
     have S2 := S1.setH (s' := { s₁ with heap := h' }) (upd_same hid' s.heap.objs.size (HC.raw o)) hs ho' rfl rfl
     rw [upd_upd] at S2
     refine K1 _ _ [o'] _ (.refl _) ⟨i + 1, o', rfl, hc', by rw [← hl']; exact hd'', by rw [hr']; exact hr2⟩ S2 ?_
     rw [← hr1]; exact hu2
 · intro l' os A' L' outer' h₁ s₁ st₁ hid' E' P' zz13 hf S1 hP; refine xEEAAA zz13 fun i o zz14 hc hd' hr => ?_; subst zz14
   exact wpAny_pyIter_valiter ⟨o, (S1.hidd _ _ (upd_same hid' s.heap.objs.size (HC.raw o))).1, hc, hd'⟩ hP
 · intro os A' L' outer' h₁ s₁ st₁ hid' E' P' zz15 hh hf S1 kk hG K1; refine xEEAAA zz15 fun i o zz16 hc hd' hr => ?_; subst zz16
   replace S1 : Sat p L' outer' h₁ s₁ st₁ (upd hid' s.heap.objs.size (.raw o)) := S1
   refine xEAA ((S1.obj _ _ hG).1) fun ds' D' r1 z' => ?_
   have hl' := r1.length
   have ho := (S1.hidd _ _ (upd_same hid' s.heap.objs.size (HC.raw o))).1
   have hn : ds'[i]? = none := by
     have : es.drop i = [] := by simpa using hr
     rw [List.drop_eq_nil_iff] at this
     rw [List.getElem?_eq_none_iff]; lia
   refine wpAny_pyNext_values_end hh ⟨o, ho, hc, by rw [hl']; exact hd'⟩ D' hn fun h' hs => ⟨rfl, ?_⟩
   exact xA (S1.unhide (hf _ (.head _))) fun S2 u => (K1 _ _ (.refl _) (S2.extB (s' := { s₁ with heap := h' }) u hs rfl rfl))
theorem evalArgs_any {M : Model} {A : Around} {E : Value → Shared → Prop} {s : Shared} {f : Value} {x y : Sem Value} {c : Bool} {Q : Args → Shared → Prop}
   (h : wpAny M A (spliced [(false, x), (c, y)]) (fun vs s₁ => Q ⟨vs, []⟩ s₁) E s) : wpAny M A (evalArgs f true [(false, x), (c, y)] []) Q E s := by
 unfold evalArgs
 show wpAny M A (spliced [(false, x), (c, y)] >>= _) Q E s
 exact wpAny_bind (wpAny_mono h (fun vs s₁ h₁ => wpAny_bind (wpAny_pure (wpAny_holding (wpAny_bind (wpAny_pure (wpAny_bind (wpAny_pure (wpAny_pure h₁)))))))) fun _ _ e => e)
theorem spliced_star {M : Model} {A : Around} {E : Value → Shared → Prop} {s : Shared} {x : Sem Value} {Q : List Value → Shared → Prop}
   (h : wpAny M A x (fun v s₁ => wpAny M A (notIterableAtAll v) (fun c s₂ => c = false ∧ wpAny M A (collect v) Q E s₂) E s₁) E s) : wpAny M A (spliced [(true, x)]) Q E s := by
 unfold spliced
 refine wpAny_bind (wpAny_mono h (fun v s₁ h₁ => ?_) fun _ _ e => e)
 simp only [if_true]
 refine wpAny_bind (wpAny_mono h₁ (fun c s₂ zy1 => xA zy1 fun hc h₂ => ?_) fun _ _ e => e)
 subst hc
 simp only [Bool.false_eq_true, if_false]
 exact wpAny_bind (wpAny_mono h₂ (fun vs s₃ h₃ => (wpAny_bind (wpAny_holding (spliced_nil (wpAny_pure (by simpa using h₃)))))) fun _ _ e => e)
theorem iterable_list {M : Model} {A : Around} {E : Value → Shared → Prop} {s : Shared} {l : Addr} {vs : List Value} {k : Nat} {Q : Bool → Shared → Prop} (hl : s.heap.get? l = some (lstObj vs k)) (h : Q false s) : wpAny M A (notIterableAtAll (.ref l)) Q E s := by
 unfold notIterableAtAll
 exact wpAny_bind (wpAny_specialOf (T := "list") ⟨_, hl, rfl⟩ F.slot_list_iter.lookup (wpAny_pure h))
set_option tactic.hygienic true in
theorem EW.callStar {o e₁ e₂ : Expr} {name : Str} {apos spos pos : Pos} {x C dx f : Addr} (hC : KCls p C) (hm : KMeth p C name f)
   (H : EW p n b env o (fun a st1 => a = .ref x ∧ (∃ es ep, st1.σ x = some (.inst C dx) ∧ st1.σ dx = some (.dict es ep) ∧ aget es name = none) ∧
     EW p n b env e₁ (fun c st2 => EW p n b env e₂ (fun d st3 => ∃ l, IsL st3.σ d l ∧ l.length ≤ 1000 ∧ CC p n b env (.ref f) (.ref x :: c :: l) Q X st3) X st2) X st1) X st)
   (he : eval (.Call (.Attribute o name apos) [e₁, .Starred e₂ spos] [] pos) env = (do
     let ov ← eval o env
     standAt apos.atName
     let (f, first) ← holding [ov] (do pure (← getAttr ov name true, []))
     callWith pos f first [(false, eval e₁ env), (true, do let v ← eval e₂ env; standAt pos; pure v)] []) := by rfl) : EW p n b env (.Call (.Attribute o name apos) [e₁, .Starred e₂ spos] [] pos) Q X st :=
 GW.mk fun A outer h₀ s hid hA S => by
   rw [he]
   refine wpAny_bind (H.use hA S (.refl _) fun v s1 h1 a st1 k1 _ S1 hv hq => wpAny_bind (wpAny_standAt (wpAny_bind (wpAny_holding (wpAny_bind ?_)))))
   refine xAA hq fun zz19 zz20 H1 => ?_; subst zz19; obtain ⟨es, ep, q1, q2, q3⟩ := zz20
   apply VR.onRef hv
   refine xEEAAAA (inst_at S1 q1 q2) fun od ds I ho D r hl => ?_
   have hfo := hm.bind od (fun nm => ⟨_, hl nm⟩) ((hl name).trans (by rw [(r.get name).2 q3]))
   refine get_bind S1.inK I hC.ga hfo hC.gm (wpAny_call (fn_get (s := { s1 with toks := s1.toks + 1 }) S1.inK hm.type (handed_on rfl (xEAA (S1.pushF (s' := { s1 with heap := s1.heap.push (methodObj (.ref f) (.ref x)), toks := s1.toks + 1 }) (methodObj (.ref f) (.ref x)) rfl rfl rfl rfl) fun h2 k12 S2 e2 => (wpAny_pure ?_)))))
   dsimp only
   unfold callWith
   refine wpAny_bind (wpAny_holding (evalArgs_any (spliced_cons (H1.use hA S2 (k1.trans k12) fun u s3 h3 c st3 k3 k23 S3 hu H3 => (spliced_star (wpAny_bind (H3.use hA S3 k3 fun w s4 h4 d st4 k4 k34 S4 hw zy2 => xEAA zy2 fun l hl4 hz H4 => wpAny_bind (wpAny_standAt (wpAny_pure ?_)))))))))
   refine xEEEAA (hl4.at S4 hw) fun y vs k zz21 e4 r4 => ?_; subst zz21
   refine iterable_list e4 ⟨rfl, wpAny_collect_seq y (.inl rfl) e4 rfl rfl (fun h5 hk5 => ?_) (by rw [List.size_toArray, r4.length, sizeLine_val]; lia)⟩
   have S5 := S4.grow (s' := { s4 with heap := h5 }) hk5 rfl S4.gens
   refine wpAny_bind (wpAny_standAt ?_)
   have hq := (k23.trans k34) _ _ e2
   have hq5 : h5.get? s1.heap.objs.size = some (methodObj (.ref f) (.ref x)) := S5.sub _ _ hq
   have hfn := hm.fn
   unfold fnIn at hfn
   split at hfn
   · rename_i oc od' fd sl ef
     have hf5 := S5.inK _ _ ef
     have L : Looks (model p.prog p.w) h5 (keeperOf (.ref s1.heap.objs.size)) .boundFrame := (Looks.ld (part := none) hq5).andThen ((Looks.ld (part := none) hf5).andThen .now)
     refine wpAny_bind (L _ _ _ _ (fun _ _ z => z) ?_)
     simp only [List.any_cons, Bool.false_or, Bool.true_or, List.any_nil, Bool.or_false]
     refine wpAny_bind (wpAny_operateT (wpAny_call (method_call (s := { s4 with heap := h5 }) hq5 ?_)))
     have := H4 A outer h4 { s4 with heap := h5 } hid (.ref x :: u :: vs) hA S5 (.cons (.ref _) (.cons (hu.mono k34) r4))
     refine codeAny_mono this fun res s6 z => ?_
     cases res with
     | error ex => exact EP.mono k4 (fun _ _ z => z) z
     | ok fl =>
       cases fl with
       | ret v =>
         exact xEEEAAA z fun h6 y6 st6 k6 S6 r6 q6 => (wpAny_bind (wpAny_holding (wpAny_point (wpAny_pure ⟨h6, y6, st6, k4.trans k6, S6, r6, q6⟩))))
       | _ => exact z.elim
   · exact xft hfn
theorem EW.fstr1 {e : Expr} {pos : Pos} (H : EW p n b env e Q X st) : EW p n b env (.JoinedStr [e] pos) Q X st :=
 GW.mk fun _ _ _ _ _ hA S => wpAny_JoinedStr_one (H _ _ _ _ _ hA S)
theorem EW.fstr3 {x : String} {c d : Str} {k1 k2 : Nat} {p1 p2 p3 np pos : Pos} {y : Str} (hy : st.ρ x = some (.str y)) (h : Q (.str (Str.empty ++ c ++ reprText y ++ d)) st) (hz : c.length + (reprText y).length + d.length ≤ 16777216)
   (hl : env.kindOf (Str.ofString x) = some .local := by rfl) (hd : (Str.ofString x == ("__debug__" : Str)) = false := by decide +kernel) :
   EW p n b env (.JoinedStr [.Constant (.str c) k1 p1, .FormattedValue (.Name (Str.ofString x) np) 114 none p2, .Constant (.str d) k2 p3] pos) Q X st :=
 GW.mk fun _ _ _ s _ hA S => by
   have he : (Str.empty : Str).length = 0 := rfl
   refine wpAny_JoinedStr ?_
   refine Constant_str ⟨c, _, rfl, ?_, ?_⟩
   · rw [strLen_append, he, sizeLine_val]; lia
   have S1 := S.of_eq (s' := { s with toks := s.toks + 1 }) rfl rfl rfl
   refine xEA S1.loc fun m hn hm => (xEA (hm x _ hy) fun u e1 e2 => ?_)
   cases e2
   have fin : ∀ tk t, (NP p env.locals _ _ _ VR Q) (Value.str (Str.empty ++ c ++ reprText y ++ d) t) { s with toks := tk } := fun tk t => NP.mk (S.of_eq rfl rfl rfl) (.refl _) (.str _ _) h
   have fits : (Str.empty ++ c ++ reprText y).length ≤ sizeLine := by rw [strLen_append, strLen_append, he, sizeLine_val]; lia
   have fits2 : (Str.empty ++ c ++ reprText y ++ d).length ≤ sizeLine := by rw [strLen_append, strLen_append, strLen_append, he, sizeLine_val]; lia
   refine wpAny_FormattedValue_repr (wpAny_Name (wpAny_loadName_local hA.kind hl hn e1 (pyReprObj_str (wpAny_formatField_str ?_ ?_ (by rw [sizeLine_val]; lia)) (by rw [sizeLine_val]; lia))) hd)
   · exact ⟨_, _, rfl, fits, Constant_str ⟨d, _, rfl, fits2, fits2, fin _ _⟩⟩
   · exact ⟨_, _, rfl, fits, Constant_str ⟨d, _, rfl, fits2, fits2, fin _ _⟩⟩
end
noncomputable abbrev accObj (acc : Array Value) (c : Nat) : Obj := { cls := .type "list", dict := none, data := .seq acc c, slots := #[] }
structure GWalk (prog : Program) (w : World) (A : Around) (I S : Addr) (n : Nat) (P : Nat → Value → Prop) (St : Nat → Shared → Prop) (Fi : Shared → Prop) : Prop where
 ne : S ≠ I
 put : ∀ i (s : Shared) f acc c, St i s → s.heap.get? S = some (accObj acc c) → St i { s with heap := s.heap.update S (Obj.mapSeq f) }
 type : ∀ i s, St i s → s.TypeIs (.ref I) "generator"
 self : ∀ i (s : Shared) (Q : Value → Shared → Prop) (E : Value → Shared → Prop) A', St i s → Q (.ref I) s → wpAny (model prog w) A' (pyIter (.ref I)) Q E s
 item : ∀ i (s : Shared) (Q : Option Value → Shared → Prop) (E : Value → Shared → Prop), i < n → St i s →
   (∀ v s', P i v → St (i + 1) s' → (∀ acc c, s.heap.get? S = some (accObj acc c) → s'.heap.get? S = some (accObj acc c)) → Q (some v) s') → wpAny (model prog w) A (pyNext (.ref I)) Q E s
 done : ∀ (s : Shared) (Q : Option Value → Shared → Prop) (E : Value → Shared → Prop), St n s → (∀ s', Fi s' → (∀ acc c, s.heap.get? S = some (accObj acc c) → s'.heap.get? S = some (accObj acc c)) → Q none s') → wpAny (model prog w) A (pyNext (.ref I)) Q E s
section
variable {prog : Program} {w : World} {A : Around} {R : Result → Shared → Prop} {I S : Addr} {n : Nat} {P : Nat → Value → Prop} {St : Nat → Shared → Prop} {Fi : Shared → Prop}
theorem gw_loop (W : GWalk prog w A.in1 I S n P St Fi) (hn : n ≤ 1000) (res : Value) :
   ∀ (k i : Nat) (s : Shared) (acc : Array Value) (c : Nat), n - i = k → i ≤ n → St i s → s.heap.get? S = some (accObj acc c) → ItemsOf P acc i →
   (∀ s' acc' c', Fi s' → s'.heap.get? S = some (accObj acc' c') → ItemsOf P acc' n → R (.ok (.ret res)) s') →
   codeAny (model prog w) A (.builtin "list.extend.loop" ⟨[.ref S, .ref I, res], []⟩) R s := by
 intro k
 induction k with
 | zero =>
   intro i s acc c hk hi hst hS hacc hR
   have hin : i = n := by omega
   subst hin
   refine codeAny_builtin F.entry_extend_loop ?_
   rw [Around.under_plainId F.plain_extend_loop _]
   show wpAny _ A.in1 (pyNext (.ref I) >>= _) _ _ s
   exact wpAny_bind (W.done s _ _ hst fun s' hf hm => (wpAny_pure (hR s' acc c hf (hm _ _ hS) hacc)))
 | succ k ih =>
   intro i s acc c hk hi hst hS hacc hR
   have hlt : i < n := by omega
   refine codeAny_builtin F.entry_extend_loop ?_
   rw [Around.under_plainId F.plain_extend_loop _]
   show wpAny _ A.in1 (pyNext (.ref I) >>= _) _ _ s
   refine wpAny_bind (W.item i s _ _ hlt hst fun v s' hP hst' hm => ?_)
   have hS' := hm _ _ hS
   show wpAny _ A.in1 (updateSeq S (·.push v) >>= _) _ _ _
   refine wpAny_bind ?_
   refine wpAny_updateSeq hS' rfl (wpAny_pure ⟨plainId_quiet F.plain_extend_loop _, ih (i + 1) _ (acc.push v) _ (by omega) hlt (W.put _ _ _ _ _ hst' hS') (Heap.get?_update_self _ hS' rfl) (hacc.push hP) hR⟩)
     (by rw [hacc.1, sizeLine_val]; omega) (by show (acc.push v).size ≤ sizeLine + 1; rw [Array.size_push, hacc.1, sizeLine_val]; omega)
theorem gw_extend {s : Shared} (W : GWalk prog w A.in1 I S n P St Fi) (hn : n ≤ 1000) (res : Value) (c₀ : Nat) (hst : St 0 s) (hS : s.heap.get? S = some (accObj #[] c₀))
   (hR : ∀ s' acc' c', Fi s' → s'.heap.get? S = some (accObj acc' c') → ItemsOf P acc' n → R (.ok (.ret res)) s') :
   wpAny (model prog w) A.in1 (Builtin.List.listExtendWith (.ref S) (.ref I) res)
     (fun fin s' => match fin with | .done f => R (.ok f) s' | .again c' => c'.quiet = true ∧ codeAny (model prog w) A c' R s') (fun e s' => R (.error e) s') s := by
 unfold Builtin.List.listExtendWith
 refine wpAny_bind (wpAny_typeOf (W.type 0 _ hst) ?_)
 have h1 : Builtin.List.listSameRef (.ref S) (.ref I) = false := by simp [Builtin.List.listSameRef, W.ne]
 have h2 : (Value.type "generator" == Value.type "list") = false := by decide
 have h3 : (Value.type "generator" == Value.type "tuple") = false := by decide
 simp only [h1, h2, h3, Bool.or_false, Bool.false_eq_true, if_false]
 refine wpAny_bind (W.self 0 _ _ _ _ hst (wpAny_bind (wpAny_holding ?_)))
 unfold Builtin.List.listLengthHint
 refine wpAny_bind (wpAny_specialOf (W.type 0 _ hst) F.gen_no_len ?_)
 show wpAny _ A.in1 (specialOf (Value.ref I) (Str.ofString "__length_hint__") >>= _) _ _ _
 refine wpAny_bind (wpAny_specialOf (W.type 0 _ hst) F.gen_no_hint (wpAny_pure ?_))
 show wpAny _ A.in1 (rule "list.extend.makes-room" >>= fun _ => Builtin.List.listTouch (.ref S) >>= fun _ =>
   again (.builtin "list.extend.loop" ⟨[.ref S, .ref I, res], []⟩)) _ _ _
 refine wpAny_bind (wpAny_rule (wpAny_bind ?_))
 show wpAny _ A.in1 (updateSeq S (·.push .none) >>= fun _ => updateSeq S (·.pop)) _ _ _
 refine wpAny_bind (wpAny_updateSeq hS rfl ?_)
 have hS₂ := Heap.get?_update_self (Obj.mapSeq (·.push Value.none)) hS rfl
 refine wpAny_updateSeq (hz := by seq_fits) hS₂ rfl ?_
 have hS₃ := Heap.get?_update_self (Obj.mapSeq (·.pop)) hS₂ rfl
 exact wpAny_pure ⟨plainId_quiet F.plain_extend_loop _, gw_loop W hn _ n 0 _ _ _ rfl (Nat.zero_le _) (W.put _ _ _ _ _ (W.put _ _ _ _ _ hst hS) hS₂) hS₃ (ItemsOf.nil P) hR⟩
theorem gw_init {s : Shared} (W : GWalk prog w A.in1 I S n P St Fi) (hn : n ≤ 1000) (hst : St 0 s) (hS : s.heap.get? S = some { cls := .type "list", data := .seq #[] })
   (hR : ∀ s' acc' c', Fi s' → s'.heap.get? S = some (accObj acc' c') → ItemsOf P acc' n → R (.ok (.ret .none)) s') :
   wpAny (model prog w) A.in1 (Builtin.«list.__init__» ⟨[.ref S, .ref I], []⟩)
     (fun fin s' => match fin with | .done f => R (.ok f) s' | .again c' => c'.quiet = true ∧ codeAny (model prog w) A c' R s') (fun e s' => R (.error e) s') s := by
 show wpAny _ A.in1 (do let old ← Builtin.List.listItems (.ref S); Builtin.List.listUpdate (.ref S) (fun _ => #[]); letGo old.toList.reverse; Builtin.List.listExtendWith (.ref S) (.ref I) .none) _ _ s
 refine wpAny_bind ?_
 unfold Builtin.List.listItems
 refine wpAny_bind (wpAny_seqItems hS rfl (wpAny_pure ?_))
 show wpAny _ A.in1 (updateSeq S (fun _ => #[]) >>= fun _ => letGo (#[] : Array Value).toList.reverse >>= fun _ => Builtin.List.listExtendWith (.ref S) (.ref I) .none) _ _ s
 refine wpAny_bind (wpAny_updateSeq hS rfl ?_)
 have hS₂ := Heap.get?_update_self (Obj.mapSeq (fun _ => (#[] : Array Value))) hS rfl
 exact wpAny_bind (wpAny_letGo (gw_extend W hn .none _ (W.put _ _ _ _ _ hst hS) hS₂ hR))
end
theorem gw_list {prog : Program} {w : World} {A : Around} {E : Value → Shared → Prop} {s : Shared} {I : Addr} {n : Nat} {P : Nat → Value → Prop} {St : Nat → Shared → Prop} {Fi : Shared → Prop} {Q : Value → Shared → Prop}
   (W : GWalk prog w A.in1.in1 I s.heap.objs.size n P St Fi) (hn : n ≤ 1000) (hst : St 0 { s with heap := s.heap.push { cls := .type "list", data := .seq #[] } })
   (hQ : ∀ s' acc' c', Fi s' → s'.heap.get? s.heap.objs.size = some (accObj acc' c') → ItemsOf P acc' n → Q (.ref s.heap.objs.size) s') :
   wpAny (model prog w) A (call (.type "list") [.ref I]) Q E s := by
 refine callType_codes (Q₁ := fun obj s₁ => obj = .ref s.heap.objs.size ∧ s₁ = { s with heap := s.heap.push { cls := .type "list", data := .seq #[] } }) F.called_list (F.typeCall_list_1 _) F.entry_list_init
   (code_list_new _ ⟨rfl, rfl⟩) fun obj s₁ h₁ => ?_
 refine xA h₁ fun zz1 zz2 => ?_; subst zz1; subst zz2
 have hS : (s.heap.push { cls := .type "list", data := .seq #[] }).get? s.heap.objs.size = some { cls := .type "list", data := .seq #[] } := Heap.get?_push_size _ rfl
 exact ⟨⟨_, hS, rfl⟩, F.args_list_init_2 _ _, gw_init W hn hst hS fun s' acc' c' hf hS' hacc => ⟨rfl, hQ s' acc' c' hf hS' hacc⟩⟩
section
variable {prog : Program} {w : World} {A : Around} {R : GenEnd} {Y : Protocol} {n : Nat} {s₀ : Shared} {c : Code} {fs : List Frame} {s : Shared} {env : Env} {K : Flow → Sem Fin} {H : Value → Sem Fin} {gd : Bool → Bool} {lv : List Value → List Value}
theorem seg_If {test : Expr} {body orelse : List Stmt} {pos : Pos}
   (h : wpAny (model prog w) (A.over c fs) (isTrue test env (eval test env)) (fun b s' => if b = true then Seg (model prog w) A R Y n s₀ c ((execs body env).wrap K H gd lv) fs s' else Seg (model prog w) A R Y n s₀ c ((execs orelse env).wrap K H gd lv) fs s')
     (fun _ _ => False) s) : Seg (model prog w) A R Y n s₀ c ((exec (.If test body orelse pos) env).wrap K H gd lv) fs s := by
 have e : exec (.If test body orelse pos) env = (do
   standAt pos
   if ← isTrue test env (eval test env) then execs body env else execs orelse env) := rfl
 rw [e]
 refine seg_bind_wrap (wpAny_standAt (seg_bind_wrap (wpAny_mono h (fun b s' hb => ?_) fun _ _ z => z.elim)))
 cases b with
 | true => exact hb
 | false => exact hb
theorem seg_For {target iter : Expr} {body orelse : List Stmt} {pos : Pos}
   (h : wpAny (model prog w) (A.over c fs) (eval iter env) (fun x s' => wpAny (model prog w) (A.over c fs) (pyIter x) (fun it s'' => ∀ p,
     Seg (model prog w) A R Y n s₀ (.forLoop target it body orelse env) ((model prog w).den (.forLoop target it body orelse env))
     (.ret (fun r => ((match r with | .ok f => (.pure f : Sem Flow) | .error e => .raise e).onRaise fun (x : Value) => do
       if (← field x 1) == Value.none then unsupported "frame.own-activation:exception-without-traceback"
       setFlight x env.frame).wrap K H gd lv) none (gd false) (lv []) c p [] :: fs) s'') (fun _ _ => False) s') (fun _ _ => False) s)
   (hs : ∀ x, foldedSetIterable iter env x = pure x := by intro _; rfl) : Seg (model prog w) A R Y n s₀ c ((exec (.For target iter body orelse pos) env).wrap K H gd lv) fs s := by
 rw [exec_For]
 exact seg_bind_wrap (wpAny_standAt (seg_bind_wrap (wpAny_mono h (fun x s' hx => (seg_bind_wrap (wpAny_of_eq (hs x) (seg_bind_wrap (wpAny_standAt (seg_bind_wrap (wpAny_holding (wpAny_mono hx (fun it s'' hit => (seg_call hit)) fun _ _ z => z.elim)))))))) fun _ _ z => z.elim)))
theorem seg_forLoop {target : Expr} {it : Value} {body orelse : List Stmt}
   (h : wpAny (model prog w) (A.over (.forLoop target it body orelse env) fs) (pyNext it) (fun r s' => match r with
       | none => Seg (model prog w) A R Y n s₀ (.block orelse env) ((model prog w).den (.block orelse env)) fs s'
       | some v => wpAny (model prog w) (A.over (.forLoop target it body orelse env) fs) (letOwnedTupleGo target it v) (fun _ s₁ => wpAny (model prog w) (A.over (.forLoop target it body orelse env) fs) (PySem.assign target env v) (fun _ s₂ =>
           Seg (model prog w) A R Y n s₀ (.forLoop target it body orelse env) ((execs body env).wrap (fun f => match f with
           | .next | .cont => .pure (.again (.forLoop target it body orelse env))
           | .brk => .pure (.done .next)
           | .ret v => .pure (.done (.ret v))) (fun e => (do noteFrame e env; theTreesLotGoes e : Sem Unit).wrap (fun _ => .raise e) .raise id id) id id) fs s₂) (fun _ _ => False) s₁) (fun _ _ => False) s')
     (fun _ _ => False) s) :
   Seg (model prog w) A R Y n s₀ (.forLoop target it body orelse env) ((model prog w).den (.forLoop target it body orelse env)) fs s := by
 show Seg _ A R Y n s₀ _ ((forTurn target it body orelse env).onRaise (fun x => do noteFrame x env; theTreesLotGoes x)) fs s
 unfold forTurn
 rw [Sem.onRaise_eq_wrap]
 refine seg_bind_wrap (wpAny_standAt (seg_bind_wrap (wpAny_onRaise (wpAny_mono h (fun r s' hr => ?_) fun _ _ z => z.elim))))
 cases r with
 | none => exact seg_again rfl hr
 | some v =>
   refine seg_bind_wrap (wpAny_mono hr (fun _ s₁ h₁ => (seg_bind_wrap (wpAny_mono h₁ (fun _ s₂ h₂ => ?_) fun _ _ z => z.elim))) fun _ _ z => z.elim)
   rw [Sem.bind_eq_wrap', Sem.wrap_wrap]
   rw [Sem.wrap_congr (execs body env) _ _ (K' := fun f => match f with
           | .next | .cont => .pure (.again (.forLoop target it body orelse env))
           | .brk => .pure (.done .next)
           | .ret v => .pure (.done (.ret v))) (H' := (fun e => (do noteFrame e env; theTreesLotGoes e : Sem Unit).wrap (fun _ => .raise e) .raise id id))
       (fun f => by cases f <;> rfl) (fun e => by first | exact Sem.bind_eq_wrap _ _ | (show (do noteFrame e env; theTreesLotGoes e : Sem Unit).bind (fun _ => .raise e) = _; rw [Sem.bind_eq_wrap]))]
   exact h₂
theorem seg_block_nil {k : Result → Sem Fin} {h : Option Value} {g : Bool} {l : List Value} {c₁ : Code} {p₁ : Pos} {kp : List Value} (hk : Seg (model prog w) A R Y n s₀ c₁ (k (.ok .next)) fs s) :
   Seg (model prog w) A R Y n s₀ (.block [] env) ((model prog w).den (.block [] env)) (.ret k h g l c₁ p₁ kp :: fs) s := by
 exact seg_leaf (.ok .next) hk
end
theorem pyNext_genQ {prog : Program} {w : World} {A : Around} {E : Value → Shared → Prop} {s : Shared} {a : Addr} {g n : Nat} {gs : GenState} {P : Nat → Shared → Shared → Prop} {Y : Protocol} {Q : Option Value → Shared → Prop} (hh : A.handled = none)
   (hl : s.heap.NoLimit) (hroom : A.depth < recursionLimit) (hg : s.heap.IsGen a g) (hgs : s.gens[g]? = some gs)
   (hgo : gs.Goes (model prog w) A.in1 (fun n s₀ r s₁ => r = .ok (.ret .none) ∧ P n s₀ s₁) Y n (.send .none) (s.setGen g .running))
   (hY : ∀ v s₁ gs', gs'.bare = true → Y (n - 1) (s.setGen g .running) v s₁ (fun r' s'' => match n with
       | 0 => False
       | m + 1 => gs'.Goes (model prog w) A.in1 (fun n s₀ r s₁ => r = .ok (.ret .none) ∧ P n s₀ s₁) Y m r' s'') → Q (some v) (s₁.setGen g gs'))
   (hP : ∀ s₁, P n (s.setGen g .running) s₁ → ∀ h', (∀ b o, s₁.heap.get? b = some o → h'.get? b = some o) → Q none { s₁.setGen g .finished with heap := h' }) :
   wpAny (model prog w) A (pyNext (.ref a)) Q E s := by
 unfold pyNext
 refine wpAny_bind (wpAny_attempt (wpAny_callSpecial?_slot (name := Str.ofString "__next__") hg.typeIs slot_gen_next
   (wpAny_call_entry slot_gen_next hg.typeIs entry_gen_next ?_ (args_gen_next _))))
 show wpAny _ A.in1 (Builtin.Generator.genWake (.ref a) (.send .none)) _ _ s
 unfold Builtin.Generator.genWake
 refine wpAny_bind (wpAny_holding (wpAny_genNumber hg (wpAny_bind (wpAny_genState hgs ?_))))
 cases gs with
 | running => exact hgo.elim
 | finished => exact hgo.elim
 | _ =>
   refine wpAny_bind (wpAny_roomToWake hl hroom ?_)
   show wpAny _ A.in1 (.resume g (.send .none) [] _) _ _ s
   refine wpAny_resumeQ hgs hgo (fun x s₁ hx => ?_) (fun v s₁ gs' hb hv => ?_)
   · refine xA hx fun zz1 hp => ?_; subst zz1
     show wpAny _ A.in1 (newExc (.type "StopIteration") [] >>= _) _ _ _
     refine wpAny_bind ?_
     simp only [newExc, newTuple]
     refine wpAny_bind (wpAny_newObj_type (wpAny_bind (m := firstArgMember _ _) (wpAny_of_eq (a := Value.none) (by first | rfl | (simp only [firstArgMember]; rfl)) (wpAny_newObj_type ?_ (by size_fits)))) (by size_fits))
     simp only [raiseNew]
     refine wpAny_bind (wpAny_bind (wpAny_handled ?_))
     first | rw [show A.in1.handled = none from hh] | rw [hh]
     exact wpAny_throw (wpAny_bind (wpAny_isInstance (T := "StopIteration") (b := true) ⟨_, Heap.get?_push_size _ rfl, rfl⟩ isSubtype_stop (wpAny_pure (hP s₁ hp _ fun b o hb => Heap.get?_push_of_some _ (Heap.get?_push_of_some _ hb)))))
   · exact wpAny_pure ⟨v, rfl, wpAny_pure (hY v s₁ gs' hb hv)⟩
section
variable {p : PC} {n : Nat} {env : Env} {A : Around} {outer : List Env} {body : List Stmt}
structure GOK (n : Nat) (A : Around) (outer : List Env) : Prop where
 frames : A.frames = some outer
 handled : A.handled = none
 depth : A.depth + 20 * (n + 1) ≤ 900
 units : A.units + 100 * (n + 1) ≤ 9000
theorem GOK.func (hA : GOK n A outer) (hk : env.scope.kind = .function) (hf : env.frame = some env.locals) (hg : env.globals = mainGlobals) (hb : env.builtins = builtinsNs) : AOK n .body (A.over (.func body env) []) env outer := by
 refine ⟨?_, fun zw => hA.handled, ?_, ?_, hk, fun zw => hf, hg, hb⟩
 · show pushEnvs [env] (pushEnvs [] A.frames) = _
   rw [hA.frames]; rfl
 · have := hA.depth
   show A.depth + 0 + (Code.func body env).weight + 20 * n ≤ 900
   have e : (Code.func body env).weight = 1 := rfl
   lia
 · have := hA.units
   show A.units + 0 + (Code.func body env).cUnits + 100 * n ≤ 9000
   have e : (Code.func body env).cUnits = 3 := rfl
   lia
theorem GOK.loop (hA : GOK n A outer) (hk : env.scope.kind = .function) (hf : env.frame = some env.locals) (hg : env.globals = mainGlobals) (hb : env.builtins = builtinsNs) {target : Expr} {it : Value} {b1 b2 : List Stmt} {k : Result → Sem Fin} {g : Bool} {l kp : List Value} {q : Pos} :
   AOK n .body (A.over (.forLoop target it b1 b2 env) [.ret k none g l (.func body env) q kp]) env outer := by
 refine ⟨?_, fun zw => ?_, ?_, ?_, hk, fun zw => hf, hg, hb⟩
 · show pushEnvs [] (pushEnvs [env] A.frames) = _
   rw [hA.frames]; rfl
 · have : (A.over (.forLoop target it b1 b2 env) [.ret k none g l (.func body env) q kp]).handled = A.handled := by
     show markOver none A.handled A.handled = A.handled
     rw [hA.handled]; rfl
   rw [this]; exact hA.handled
 · have := hA.depth
   show A.depth + frameCount [(Code.func body env, q)] + (Code.forLoop target it b1 b2 env).weight + 20 * n ≤ 900
   have e : frameCount [(Code.func body env, q)] = 1 := rfl
   have e2 : (Code.forLoop target it b1 b2 env).weight = 0 := rfl
   lia
 · have := hA.units
   show A.units + unitsOf [(Code.func body env, q)] + (Code.forLoop target it b1 b2 env).cUnits + 100 * n ≤ 9000
   have e : unitsOf [(Code.func body env, q)] = 3 := rfl
   have e2 : (Code.forLoop target it b1 b2 env).cUnits = 0 := rfl
   lia
end
section
variable (p : PC) (L : Addr) (outer : List Env) (hB : Heap) (σ : Addr → Option AObj) (hidC : Hid) (Sa : Addr) (items : List Str)
noncomputable def GR : GenEnd := fun n s₀ r s₁ => r = .ok (.ret .none) ∧ (n = 0 ∧ ∃ oS h, ∃ st' : St, s₀.heap.get? Sa = some oS ∧ Sub hB h ∧ st'.σ = σ ∧ Sat p L outer h s₁ st' (upd hidC Sa (.raw oS)))
noncomputable def GY : Protocol := fun m s₀ v s kap => ∃ x t oS h st' hd, v = .str x t ∧ items[items.length - 1 - m]? = some x ∧ s₀.heap.get? Sa = some oS ∧ Sub hB h ∧ hd Sa = none ∧ Ext hidC hd ∧ Sat p L outer h s st' (upd hd Sa (.raw oS)) ∧
 ∀ s'' h'' oS', Sub h h'' → Sat p L outer h'' s'' st' (upd hd Sa (.raw oS')) → kap (.send .none) s''
noncomputable def GSt (A : Around) (g : Nat) (i : Nat) (s : Shared) : Prop := ∃ gs h st' hd oS, s.gens[g]? = some gs ∧ Sub hB h ∧ hd Sa = none ∧ Ext hidC hd ∧ Sat p L outer h s st' (upd hd Sa (.raw oS)) ∧
 ∀ s'' h'' oS', Sub h h'' → Sat p L outer h'' s'' st' (upd hd Sa (.raw oS')) → gs.Goes (model p.prog p.w) A.in1 (GR p L outer hB σ hidC Sa) (GY p L outer hB hidC Sa items) (items.length - i) (.send .none) s''
noncomputable def GFi (s : Shared) : Prop := ∃ oS h st', Sub hB h ∧ st'.σ = σ ∧ Sat p L outer h s st' (upd hidC Sa (.raw oS))
end
noncomputable def PC.gens (p : PC) (N : Nat) : PC := { p with gp := fun gens => AllBare gens ∧ gens.size = N }
theorem bare_set {p : PC} {N : Nat} {g : Nat} {x : GenState} {s : Shared} (h : (p.gens N).gp s.gens) (hx : x.bare = true) : (p.gens N).gp (s.setGen g x).gens := by
 refine ⟨?_, by simpa [Shared.setGen] using h.2⟩
 replace h := h.1
 intro y hy
 unfold Shared.setGen at hy
 rcases Array.mem_or_eq_of_mem_setIfInBounds hy with h1 | h1
 · exact h y h1
 · rw [h1]; exact hx
section
variable {p : PC} {n : Nat} {L : Addr} {outer : List Env} {hB : Heap} {σ : Addr → Option AObj} {hidC : Hid} {Sa I : Addr} {items : List Str} {A : Around} {g N : Nat} {nm qn : Value}
theorem gen_walk (hne : Sa ≠ I) (hI : hidC I = some (.raw { cls := .type "generator", data := .fields #[.int g 0, nm, qn] })) (hSn : hidC Sa = none) (hh : A.handled = none) (hroom : A.depth < recursionLimit) (hN : g < N) :
   GWalk p.prog p.w A I Sa items.length (fun i v => ∃ x t, v = .str x t ∧ items[i]? = some x) (GSt (p.gens N) L outer hB σ hidC Sa items A g) (GFi (p.gens N) L outer hB σ hidC Sa) := by
 have gen : ∀ {h s st' hd oS}, Ext hidC hd → Sat (p.gens N) L outer h s st' (upd hd Sa (.raw oS)) → s.heap.IsGen I g := fun {h s st' hd oS} hx S => by
   have e : upd hd Sa (.raw oS) I = some (.raw { cls := .type "generator", data := .fields #[.int g 0, nm, qn] }) := by
     rw [upd_ne _ _ hne.symm]; exact hx _ _ hI
   exact ⟨_, nm, qn, (S.hidd _ _ e).1, rfl, rfl, rfl⟩
 have old : ∀ {h s st' hd oS}, Sat (p.gens N) L outer h s st' (upd hd Sa (.raw oS)) → s.heap.get? Sa = some oS := fun S => (S.hidd _ _ (upd_same ..)).1
 refine ⟨hne, ?_, ?_, ?_, ?_, ?_⟩
 · intro i s f acc c zz2 hS; refine xEEEEEAAAAA zz2 fun gs h st' hd oS hgs hk hn hx S K => ?_
   have S2 := S.setH (s' := { s with heap := s.heap.update Sa (Obj.mapSeq f) }) (upd_same hd Sa (HC.raw oS)) (Heap.SameBut.update ..) (Heap.get?_update_self (Obj.mapSeq f) hS rfl) rfl rfl
   rw [upd_upd] at S2
   exact ⟨gs, h, st', hd, _, hgs, hk, hn, hx, S2, K⟩
 · intro i s zz3; refine xEEEEEAAAAA zz3 fun gs h st' hd oS hgs hk hn hx S K => ?_
   exact (gen hx S).typeIs
 · intro i s Q E A' zz4 hQ; refine xEEEEEAAAAA zz4 fun gs h st' hd oS hgs hk hn hx S K => ?_
   exact wpAny_pyIter_gen (gen hx S) hQ
 · intro i s Q E hi zz5 hQ; refine xEEEEEAAAAA zz5 fun gs h st' hd oS hgs hk hn hx S K => ?_
   refine xE ((⟨items.length - i - 1, by lia⟩) : ∃ m, items.length - i = m + 1) fun m hm => ?_
   rw [hm] at K
   have Sr : Sat (p.gens N) L outer h (s.setGen g .running) st' (upd hd Sa (.raw oS)) := ⟨S.base, S.sub, S.loc, S.locF, S.locS, S.locH, S.obj, S.hidd, S.out, S.os, bare_set S.gens rfl⟩
   refine pyNext_genQ (P := fun n s₀ s₁ => n = 0 ∧ ∃ oS h, ∃ st' : St, s₀.heap.get? Sa = some oS ∧ Sub hB h ∧ st'.σ = σ ∧ Sat (p.gens N) L outer h s₁ st' (upd hidC Sa (.raw oS))) (Y := GY (p.gens N) L outer hB hidC Sa items) hh (p.hT.nolimit.keeps (S.base.trans S.sub)) hroom (gen hx S) hgs (K _ h oS (.refl _) Sr) (fun v s₁ gs' hb hv => ?_) (fun s₁ hp h' hk => ?_)
   · refine xEEEEEEAAAAAAA hv fun x t oS1 h1 st1 hd1 zz6 hxi ho hk1 hn1 hx1 S1 K1 => ?_; subst zz6
     have e1 : items.length - 1 - (m + 1 - 1) = i := by lia
     rw [e1] at hxi
     refine hQ _ _ ⟨x, t, rfl, hxi⟩ ⟨gs', h1, st1, hd1, oS1, ?_, hk1, hn1, hx1, ⟨S1.base, S1.sub, S1.loc, S1.locF, S1.locS, S1.locH, S1.obj, S1.hidd, S1.out, S1.os, bare_set S1.gens hb⟩, fun s'' h'' oS' k'' S'' => ?_⟩ fun acc c hS => ?_
     · have hz := S1.gens.2
       have : g < s₁.gens.size := by rw [hz]; exact hN
       simp [Shared.setGen, this]
     · have e2 : items.length - (i + 1) = m := by lia
       rw [e2]
       exact K1 s'' h'' oS' k'' S''
     · have : oS1 = accObj acc c := Option.some.inj (ho.symm.trans hS)
       rw [← this]; exact (show s₁.heap.get? Sa = some oS1 from old S1)
   · exact absurd hp.1 (Nat.succ_ne_zero m)
 · intro s Q E zz7 hQ; refine xEEEEEAAAAA zz7 fun gs h st' hd oS hgs hk hn hx S K => ?_
   rw [Nat.sub_self] at K
   have Sr : Sat (p.gens N) L outer h (s.setGen g .running) st' (upd hd Sa (.raw oS)) := ⟨S.base, S.sub, S.loc, S.locF, S.locS, S.locH, S.obj, S.hidd, S.out, S.os, bare_set S.gens rfl⟩
   refine pyNext_genQ (P := fun n s₀ s₁ => n = 0 ∧ ∃ oS h, ∃ st' : St, s₀.heap.get? Sa = some oS ∧ Sub hB h ∧ st'.σ = σ ∧ Sat (p.gens N) L outer h s₁ st' (upd hidC Sa (.raw oS))) (Y := GY (p.gens N) L outer hB hidC Sa items) hh (p.hT.nolimit.keeps (S.base.trans S.sub)) hroom (gen hx S) hgs (K _ h oS (.refl _) Sr) (fun v s₁ gs' hb hv => ?_) (fun s₁ hp h' hk => ?_)
   · refine xEEEEEEAAAAAAA hv fun x t oS1 h1 st1 hd1 zz8 hxi ho hk1 hn1 hx1 S1 K1 => ?_; subst zz8
     exact (K1 s₁ h1 oS1 (.refl _) S1).elim
   · refine xAEEEAAA hp fun zw oS1 h1 st1 ho hk1 hσ S1 => (hQ _ ⟨oS1, h1, st1, hk1, hσ, (Sat.grow (s' := { s₁.setGen g .finished with heap := h' }) S1 hk rfl (bare_set S1.gens rfl))⟩ fun acc c hS => ?_)
     have : oS1 = accObj acc c := Option.some.inj (ho.symm.trans hS)
     exact hk _ _ (by rw [← this]; exact old S1)
end
section
variable {p : PC} {n : Nat} {env : Env} {A : Around} {outer : List Env} {body : List Stmt} {hB hs : Heap} {σ : Addr → Option AObj} {hidC : Hid} {Sa : Addr} {items : List Str}
theorem gen_loop {x : String} {tp ip yp ep q : Pos} {test e : Expr} {F : Str → Option Str} {D : Str → Prop} {Inv : St → Prop} {it : Value} {as : List Addr} {G : (Addr → Option AObj) → Prop} {J : List AV → List Obj → Prop} {kF : Result → Sem Fin} {l kp : List Value}
   (hA : GOK n A outer) (hk : env.scope.kind = .function) (hf : env.frame = some env.locals) (hg : env.globals = mainGlobals) (hb : env.builtins = builtinsNs) (hco : env.scope.isCoroutine = false) (hx : env.kindOf (Str.ofString x) = some .local) (hi : interactive env = false)
   (hset : ∀ st y, Inv st → Inv (st.set x (.str y)))
   (htest : ∀ st y, D y → Inv st → st.ρ x = some (.str y) → TW p n .body env test (fun c st1 => c = (F y).isSome ∧ st1 = st) (fun _ _ => False) st)
   (helt : ∀ st y z, D y → Inv st → st.ρ x = some (.str y) → F y = some z → EW p n .body env e (fun a st1 => a = .str z ∧ st1 = st) (fun _ _ => False) st)
   (hσ : ∀ st, Inv st → st.σ = σ) (hG : ∀ st, Inv st → G st.σ) (I : ItrOK p (.Name (Str.ofString x) tp) it as hs G J) (hSn : hidC Sa = none) (has : ∀ a ∈ as, hidC a = none) (hSas : Sa ∉ as)
   (hEnd : ∀ s₀ s, GR p env.locals outer hB σ hidC Sa 0 s₀ (.ok (.ret .none)) s → Seg (model p.prog p.w) A (GR p env.locals outer hB σ hidC Sa) (GY p env.locals outer hB hidC Sa items) 0 s₀ (.func body env) (kF (.ok .next)) [] s) :
   ∀ (r : List Str) (dn : List Str) (os : List Obj) (s₀ s : Shared) (h : Heap) (st : St) (oS : Obj), (∀ y ∈ r, D y) → items = dn ++ r.filterMap F → J (r.map .str) os → Inv st → s₀.heap.get? Sa = some oS → Sub hB h → Sub hs h →
     Sat p env.locals outer h s st (over (upd hidC Sa (.raw oS)) as os) →
     Seg (model p.prog p.w) A (GR p env.locals outer hB σ hidC Sa) (GY p env.locals outer hB hidC Sa items) (r.filterMap F).length s₀
       (.forLoop (.Name (Str.ofString x) tp) it [.If test [.Expr (.Yield (some e) yp) ep] [] ip] [] env) ((model p.prog p.w).den (.forLoop (.Name (Str.ofString x) tp) it [.If test [.Expr (.Yield (some e) yp) ep] [] ip] [] env))
       [.ret kF none false l (.func body env) q kp] s := by
 have hO := hA.loop hk hf hg hb (body := body) (target := .Name (Str.ofString x) tp) (it := it) (b1 := [.If test [.Expr (.Yield (some e) yp) ep] [] ip]) (b2 := []) (k := kF) (g := false) (l := l) (kp := kp) (q := q)
 have hh := hO.handled (by decide)
 have hfree : ∀ oS, ∀ a ∈ as, upd hidC Sa (HC.raw oS) a = none := fun oS a ha => by
   have hne : a ≠ Sa := fun z => hSas (by rw [← z]; exact ha)
   rw [upd_ne _ _ hne]; exact has a ha
 intro r
 induction r with
 | nil =>
   intro dn os s₀ s h st oS hD hit hJ hI hS hkB hks S
   refine seg_forLoop (wpAny_mono (I.stop (P := fun s4 => Seg (model p.prog p.w) A (GR p env.locals outer hB σ hidC Sa) (GY p env.locals outer hB hidC Sa items) 0 s₀ (.block [] env) ((model p.prog p.w).den (.block [] env)) [.ret kF none false l (.func body env) q kp] s4)
     hJ hh (hfree oS) S hks (hG st hI) fun s4 h4 k4 S4 => ?_) (fun r' s4 zy1 => xA zy1 fun e1 q1 => ?_) fun _ _ z => z)
   · exact seg_block_nil (hEnd s₀ s4 ⟨rfl, rfl, oS, h4, st, hS, hkB.trans k4, hσ st hI, S4⟩)
   · subst e1; exact q1
 | cons y r ih =>
   intro dn os s₀ s h st oS hD hit hJ hI hS hkB hks S
   refine seg_forLoop (wpAny_mono (I.next (v := .str y) (r := r.map .str) (E := fun _ _ => False) (P := fun u s4 => wpAny (model p.prog p.w) (A.over (.forLoop (.Name (Str.ofString x) tp) it [.If test [.Expr (.Yield (some e) yp) ep] [] ip] [] env) [.ret kF none false l (.func body env) q kp])
     (PySem.assign (.Name (Str.ofString x) tp) env u) (fun _ s₂ => Seg (model p.prog p.w) A (GR p env.locals outer hB σ hidC Sa) (GY p env.locals outer hB hidC Sa items) ((y :: r).filterMap F).length s₀
       (.forLoop (.Name (Str.ofString x) tp) it [.If test [.Expr (.Yield (some e) yp) ep] [] ip] [] env) ((execs [.If test [.Expr (.Yield (some e) yp) ep] [] ip] env).wrap (fun f => match f with
           | .next | .cont => .pure (.again (.forLoop (.Name (Str.ofString x) tp) it [.If test [.Expr (.Yield (some e) yp) ep] [] ip] [] env))
           | .brk => .pure (.done .next)
           | .ret v => .pure (.done (.ret v))) (fun e => (do noteFrame e env; theTreesLotGoes e : Sem Unit).wrap (fun _ => .raise e) .raise id id) id id) [.ret kF none false l (.func body env) q kp] s₂) (fun _ _ => False) s4)
     hJ hh (hfree oS) S hks (hG st hI) fun s4 h4 os4 u k4 j4 S4 hu => ?_) (fun r' s4 zy2 => xEA zy2 fun u e1 q1 => ?_) fun _ _ z => z)
   · refine wpAny_mono ((AsW.name (p := p) (n := n) (b := .body) (X := fun _ _ => False) (Q := fun _ st1 => st1 = st.set x (.str y)) rfl hx) _ _ _ _ _ _ hO S4 hu) (fun _ s5 z_ => z_.elim fun h5 _ st5 k5 S5 _ q5 => ?_) fun _ _ z => z.never
     subst q5
     have hI5 := hset st y hI
     have hρ : (st.set x (.str y)).ρ x = some (.str y) := upd_same ..
     refine seg_execs_cons (seg_If (wpAny_mono (htest _ y (hD y (.head _)) hI5 hρ _ _ _ _ _ hO S5) (fun c s6 z_ => z_.elim fun h6 c' st6 k6 S6 r6 q6 => ?_) fun _ _ z => z.never))
     obtain rfl : c' = c := r6
     refine xA q6 fun hc zz1 => ?_; subst zz1
     have kk6 : Sub h h6 := (k4.trans k5).trans k6
     cases hF : F y with
     | none =>
       rw [hF] at hc
       subst hc
       refine ite_f (by decide) ?_
       have hfm : (y :: r).filterMap F = r.filterMap F := by simp [hF]
       rw [hfm] at hit ⊢
       exact seg_again rfl (ih dn os4 s₀ s6 h6 _ oS (fun y hy => hD y (.tail _ hy)) hit j4 hI5 hS (hkB.trans kk6) (hks.trans kk6) S6)
     | some z =>
       rw [hF] at hc
       subst hc
       refine ite_t (by rfl) ?_
       have hfm : (y :: r).filterMap F = z :: r.filterMap F := by simp [hF]
       rw [hfm] at hit ⊢
       rw [List.length_cons]
       refine seg_execs_cons (seg_Expr_Yield rfl rfl rfl (wpAny_mono (helt _ y z (hD y (.head _)) hI5 hρ hF _ _ _ _ _ hO S6) (fun v s7 z_ => z_.elim fun h7 a st7 k7 S7 r7 q7 => ?_) fun _ _ z => z.never.elim) hco hi)
       refine xA q7 fun zz2 zz3 => ?_; subst zz2; subst zz3
       apply VR.onStr r7; intro zt
       intro kap hkap
       have e8 : over (upd hidC Sa (.raw oS)) as os4 = upd (over hidC as os4) Sa (.raw oS) := (over_upd as os4 hSas).symm
       rw [e8] at S7
       refine ⟨z, _, oS, h7, st.set x (.str y), over hidC as os4, rfl, ?_, hS, (hkB.trans kk6).trans k7, ?_, ext_over as os4 I.nodup has, S7, fun s8 h8 oS8 k8 S8 => hkap .none s8 ?_⟩
       · have e1 : items.length - 1 - (r.filterMap F).length = dn.length := by
           rw [hit, List.length_append, List.length_cons]; omega
         rw [e1, hit, List.getElem?_append_right (Nat.le_refl _), Nat.sub_self]; rfl
       · have : ∀ (as : List Addr) (os : List Obj) (hid : Hid), Sa ∉ as → hid Sa = none → over hid as os Sa = none := by
           intro as
           induction as with
           | nil => intro os hid _ h; exact h
           | cons a as iha =>
             intro os hid hns h
             cases os with
             | nil => exact h
             | cons o os =>
               have hne : Sa ≠ a := fun z => hns (z ▸ .head _)
               exact iha os (upd hid a (.raw o)) (fun z => hns (.tail _ z)) (by rw [upd_ne _ _ hne]; exact h)
         exact this as os4 hidC hSas hSn
       · rw [over_upd as os4 hSas] at S8
         have kk8 : Sub h h8 := (kk6.trans k7).trans k8
         refine seg_again rfl (ih (dn ++ [z]) os4 s8 s8 h8 _ oS8 (fun y hy => hD y (.tail _ hy)) (by rw [hit]; simp) j4 hI5 ?_ (hkB.trans kk8) (hks.trans kk8) S8)
         have : over (upd hidC Sa (.raw oS8)) as os4 Sa = some (.raw oS8) := by
           rw [← over_upd as os4 hSas]; exact upd_same ..
         exact (S8.hidd _ _ this).1
   · subst e1; exact q1
end
theorem Sat.toGens {p : PC} {N : Nat} {L : Addr} {outer : List Env} {h : Heap} {s s' : Shared} {st : St} {hid : Hid} (S : Sat p L outer h s st hid) (hh : s'.heap = s.heap) (ho : s'.os = s.os) (hg : AllBare s'.gens) (hz : s'.gens.size = N) : Sat (p.gens N) L outer h s' st hid :=
 ⟨S.base, hh ▸ S.sub, hh ▸ S.loc, S.locF, S.locS, S.locH, hh ▸ S.obj, hh ▸ S.hidd, S.out, ho.trans S.os, hg, hz⟩
theorem Sat.ofGens {p : PC} {N : Nat} {L : Addr} {outer : List Env} {h : Heap} {s : Shared} {st : St} {hid : Hid} (S : Sat (p.gens N) L outer h s st hid) (hp : p.gp = AllBare) : Sat p L outer h s st hid :=
 ⟨S.base, S.sub, S.loc, S.locF, S.locS, S.locH, S.obj, S.hidd, S.out, S.os, by rw [hp]; exact S.gens.1⟩
noncomputable def GenGo (p : PC) (n : Nat) (body : List Stmt) (scope : Scope) (f : Addr) (bs : List (String × AV)) (items : List Str) (σ : Addr → Option AObj) : Prop :=
 ∀ (A : Around) (N : Nat) (L : Addr) (q : Str) (cd : Value) (outer : List Env) (hB h : Heap) (hidC : Hid) (Sa : Addr) (s : Shared) (oS : Obj), GOK n A outer → hidC Sa = none → Sub hB h →
   Sat (p.gens N) L outer h s ⟨fun x => bs.reverse.lookup x, σ⟩ (upd hidC Sa (.raw oS)) →
   Seg (model p.prog p.w) A (GR (p.gens N) L outer hB σ hidC Sa) (GY (p.gens N) L outer hB hidC Sa items) items.length s (.func body (mkEnv scope L f q cd)) ((model p.prog p.w).den (.func body (mkEnv scope L f q cd))) [] s
theorem vrs_strs {h : Heap} : ∀ (items : List Str) (vs : List Value), vs.length = items.length → (∀ (j : Nat) (v : Value), vs[j]? = some v → ∃ x t, v = Value.str x t ∧ items[j]? = some x) → VRs h (items.map AV.str) vs
 | [], [], _, _ => .nil
 | x :: xs, v :: vs, hl, hj => by
   refine xEEA (hj 0 v rfl) fun y t zz1 e => ?_; subst zz1
   cases Option.some.inj e
   exact .cons (.str _ _) (vrs_strs xs vs (by simpa using hl) fun j v e => hj (j + 1) v e)
 | [], _ :: _, hl, _ => by simp at hl
 | _ :: _, [], hl, _ => by simp at hl
section
variable {p : PC} {n : Nat} {env : Env} {X : Value → St → Prop} {st : St}
end
section
theorem ForW.run {target : Expr} {body orelse : List Stmt} {G : (Addr → Option AObj) → Prop} {Q : AF → St → Prop} (I : List AV → St → Prop) (hG : ∀ r st, I r st → G st.σ) (hnil : ∀ st, I [] st → SW p n b env orelse Q X st)
   (hcons : ∀ v r st, I (v :: r) st → AsW p n b env target v (fun _ st1 => SW p n b env body (loopS (I r) Q) X st1) X st) : ∀ (r : List AV) (st : St), I r st → ForW p n b env target body orelse G X r Q st
 | [], st, h => ⟨hG _ _ h, hnil st h⟩
 | v :: r, st, h => by
   refine ⟨hG _ _ h, GF.mk fun A outer h₀ s hid u hA S hu => wpAny_mono (hcons v r st h A outer h₀ s hid u hA S hu) (fun _ s1 z_ => z_.elim fun h1 y st1 k1 S1 _ q => ⟨h1, (), st1, k1, S1, trivial, q.mono (fun f st2 hq => ?_) fun _ _ z => z⟩) fun _ _ e => e⟩
   cases f with
   | next => exact ForW.run I hG hnil hcons r st2 hq
   | cont => exact ForW.run I hG hnil hcons r st2 hq
   | brk => exact hq
   | ret w => exact hq
theorem XW.tryNo {body : List Stmt} {h₀ : ExceptHandler} {hs : List ExceptHandler} {pos : Pos} {Q : AF → St → Prop} (H : SW p n b env body Q (fun _ _ => False) st) : XW p n b env (.Try body (h₀ :: hs) [] [] pos) Q X st := by
 refine GW.mk fun A outer h₀ s hid hA S => (wpAny_Try_except (wpAny_mono (H _ _ _ _ _ hA S) (fun f s1 z_ => z_.elim fun h1 y st1 k1 S1 r q => ?_) fun x s1 he => he.never.elim))
 cases r with
 | next => exact wpAny_execs_nil ⟨h1, _, st1, k1, S1, .next, q⟩
 | brk => exact ⟨h1, _, st1, k1, S1, .brk, q⟩
 | cont => exact ⟨h1, _, st1, k1, S1, .cont, q⟩
 | ret hv => exact ⟨h1, _, st1, k1, S1, .ret hv, q⟩
theorem is_int {prog : Program} {w : World} (i : Int) (t : Tok) : (PySem.intKind prog w).is i (.int i t) = true := by simp [PySem.intKind, Value.isInt]
theorem EW.tab2 {c1 c2 : Int} {t1 t2 : Str} {k1 k2 k3 k4 : Nat} {p1 p2 p3 p4 dpos pos : Pos} {slice : Expr} (hne : c1 ≠ c2)
   (H : EW p n b env slice (fun c st1 => ∃ j, c = .int j ∧ ((j = c1 ∧ Q (.str t1) st1) ∨ (j = c2 ∧ Q (.str t2) st1))) X st) (hs : isSlice slice = false := by rfl) :
   EW p n b env (.Subscript (.Dict [some (.Constant (.int c1) k1 p1), some (.Constant (.int c2) k2 p2)] [.Constant (.str t1) k3 p3, .Constant (.str t2) k4 p4] dpos) slice pos) Q X st := by
 refine GW.mk fun A outer h₀ s hid hA S => (Subscript_ ?_)
 have hall : ([some (Expr.Constant (.int c1) k1 p1), some (Expr.Constant (.int c2) k2 p2)].all (·.isSome)) = true := rfl
 refine wpAny_Dict_walk (knd := intKind p.prog p.w) hall rfl (List.cons_ne_nil _ _) (by show 2 ≤ 15; decide) (pairTrees_cons_walk (wpAny_Constant_int (Constant_str (pairTrees_cons_walk (wpAny_Constant_int (Constant_str (pairTrees_nil_walk ?_)))))))
 have S1 := S.grow (s' := { s with heap := s.heap.push { cls := .type "dict", data := .dict #[] } }) (Sub.push _ _) rfl S.gens
 have hu : Unt h₀ env.locals st hid s.heap.objs.size := unt_ge S (Nat.le_refl _)
 refine display_done_int (prog := p.prog) (w := p.w) rfl (by simp [intKeyPairs, hne]) (Heap.DictOf.new s.heap) fun h' hd hsb => (xEEEAA (id hd) fun o es ep ho hx hr => ?_)
 have S2 : Sat p env.locals outer h₀ { s with heap := h' } st hid := S1.extB (s' := { s with heap := h' }) hu hsb.extBut rfl rfl
 refine xA S2.refreeze fun k2 S3 => ?_
 have e3 : (mask h' (priv env.locals st hid)).get? s.heap.objs.size = some o := by
   rw [mask_get, hu.2]; exact ho
 have S4 : ∀ tk, Sat p env.locals outer (mask h' (priv env.locals st hid)) { s with heap := h', toks := tk } st hid := fun tk => S3.of_eq rfl rfl rfl
 refine H.use hA (S4 _) k2 fun v s5 h5 c st5 k5 k35 S5 hv zy1 => xEA zy1 fun j hc hq => ?_
 subst hc
 apply VR.onInt hv; intro t
 refine xEE ((⟨_, _, o, es, ep, S5.sub _ _ (k35 _ _ e3), hx, hr⟩) : ∃ ta tb, s5.heap.DictOf (PySem.intKind p.prog p.w) s.heap.objs.size [(c1, Value.str t1 ta), (c2, Value.str t2 tb)]) fun ta tb hd5 => ?_
 rcases hq with ⟨rfl, hq⟩ | ⟨rfl, hq⟩
 · exact tail_any hd5.typeIs slot_dict_getitem.lookup (wpAny_getItem_of (k := j) (v := .str t1 ta) (is_int _ _) hd5.mapOf (by simp [valueAt]) (NP.mk (S5.of_eq rfl rfl rfl) k5 (.str _ _) hq)) (subscripted_plain hs)
 · exact tail_any hd5.typeIs slot_dict_getitem.lookup (wpAny_getItem_of (k := j) (v := .str t2 tb) (is_int _ _) hd5.mapOf (by simp [valueAt, hne]) (NP.mk (S5.of_eq rfl rfl rfl) k5 (.str _ _) hq)) (subscripted_plain hs)
end
section
variable {α β : Type} {p : PC} {n : Nat} {b : Mode} {env : Env} {X : Value → St → Prop} {st : St} {R : Heap → β → α → Prop} {t : Sem α}
theorem GW.loose {Q : β → St → Prop} (H : GW p n b env R t (fun y st1 => ∃ st2, (∀ x v, st2.ρ x = some v → st1.ρ x = some v) ∧ (∀ a o, st2.σ a = some o → st1.σ a = some o) ∧ Q y st2) X st) : GW p n b env R t Q X st :=
 GW.mk fun A outer h₀ s hid hA S => wpAny_mono (H A outer h₀ s hid hA S) (fun _ _ z_ => z_.elim fun h1 y st1 k S1 r q => q.elim fun st2 q => NP.mk (S1.forget q.1 q.2.1) k r q.2.2) fun _ _ e => e
theorem Sat.unhideO {L : Addr} {outer : List Env} {h₀ : Heap} {s : Shared} {hid : Hid} {a : Addr} {o : AObj} {ob : Obj} (S : Sat p L outer h₀ s st (upd hid a (.raw ob))) (hn : hid a = none) (ok : OOK p h₀ s.heap a o) (out : ∀ e ∈ outer, e.scope.kind ≠ .module ∧ ∃ L' m, e.frame = some L' ∧ hid L' = some (.frame m)) :
   st.σ a = none ∧ Sat p L outer h₀ s (st.put a o) hid := by
 have hDo := S.hidd a _ (upd_same ..)
 have nL : L ≠ a := fun z => by have := S.locH; rw [z, upd_same] at this; exact xsn this
 have sD : st.σ a = none := by
   cases q : st.σ a with
   | none => rfl
   | some o => have := (S.obj a o q).2.2; rw [upd_same] at this; exact xsn this
 refine ⟨sD, S.base, S.sub, S.loc, S.locF, ?_, ?_, fun c x e => ?_, fun c x e => ?_, out, S.os, S.gens⟩
 · show upd st.σ a _ L = none
   rw [upd_ne _ _ nL]; exact S.locS
 · have := S.locH; rwa [upd_ne _ _ nL] at this
 · have e' : upd st.σ a o c = some x := e
   by_cases z : c = a
   · subst z
     rw [upd_same] at e'
     cases Option.some.inj e'
     exact ⟨ok, hDo.2, hn⟩
   · rw [upd_ne _ _ z] at e'
     have := S.obj c x e'
     rw [upd_ne _ _ z] at this
     exact this
 · have z : c ≠ a := fun z => by rw [z, hn] at e; exact xns e
   exact S.hidd c x (by rw [upd_ne _ _ z]; exact e)
theorem EP.unhideO {L : Addr} {outer : List Env} {h₀ h₁ : Heap} {s : Shared} {hid : Hid} {a : Addr} {o : AObj} {ob : Obj} {x : Value} (he : EP p L outer h₁ (upd hid a (.raw ob)) (fun c st1 => X c (st1.put a o)) x s) (k : Sub h₀ h₁) (hn : hid a = none)
   (ok : ∀ h₂, Sub h₁ h₂ → s.heap.get? a = some ob → OOK p h₂ s.heap a o) (out : ∀ e ∈ outer, e.scope.kind ≠ .module ∧ ∃ L' m, e.frame = some L' ∧ hid L' = some (.frame m)) : EP p L outer h₀ hid X x s := by
 refine xEEEAAA he fun h₂ cls st' k' S zz1 q => ?_; obtain ⟨e, oe, vs, rfl, hu, he, hc, hdt, hcase⟩ := zz1
 have S2 := (S.unhideO hn (ok h₂ k' (S.hidd a _ (upd_same ..)).1) out).2
 have un : ∀ {c}, Unt h₂ L st' (upd hid a (.raw ob)) c → Unt h₂ L (st'.put a o) hid c := fun {c} u => by
   refine xA u fun u1 u2 => (xAA (priv_false.mp u2) fun v1 v2 v3 => ?_)
   have nA : c ≠ a := fun z => by rw [z, upd_same] at v3; exact xsn v3
   refine ⟨u1, priv_false.mpr ⟨v1, ?_, by rwa [upd_ne _ _ nA] at v3⟩⟩
   show upd st'.σ a o c = none
   rw [upd_ne _ _ nA]; exact v2
 exact ⟨h₂, cls, _, k.trans k', S2, ⟨e, oe, vs, rfl, un hu, he, hc, hdt, hcase.imp id fun zy1 => xEEEEAAAAAA zy1 fun T oT ts y h1 hTe huT hT hdT h3 hy => ⟨T, oT, ts, y, h1, hTe, un huT, hT, hdT, h3, hy⟩⟩, q⟩
theorem GW.frame {a : Addr} {o : AObj} {Q : β → St → Prop} (e : st.σ a = some o) (H : GW p n b env R t (fun y st1 => st1.σ a = none → Q y (st1.put a o)) (fun c st1 => X c (st1.put a o)) (st.del a)) : GW p n b env R t Q X st := by
 refine GW.mk fun A outer h₀ s hid hA S => ?_
 have hO := S.obj a o e
 refine xE hO.1.there fun ob hob => ?_
 have ne : a ≠ env.locals := fun z => by have := S.locS; rw [← z, e] at this; exact xsn this
 have S1 : Sat p env.locals outer h₀ s (st.del a) hid := S.forget (fun _ _ z => z) fun c x z => (era_some z).2
 have u : Unt h₀ env.locals (st.del a) hid a := ⟨hO.2.1, priv_false.mpr ⟨ne, era_same .., hO.2.2⟩⟩
 have ok : ∀ h₂ (s' : Shared), Sub h₀ h₂ → s'.heap.get? a = some ob → OOK p h₂ s'.heap a o := fun h₂ s' k z => (hO.1.same (z.trans hob.symm)).mono₀ k
 refine wpAny_mono (H _ _ _ _ _ hA (S1.hide u hob)) (fun v s' z_ => z_.elim fun h₁ y st' k S' r q => ?_) fun x s' he => he.unhideO (.refl _) hO.2.2 (fun h₂ k z => ok h₂ s' k z) S.out
 have z := S'.unhideO hO.2.2 (ok h₁ s' k (S'.hidd a _ (upd_same ..)).1) S.out
 exact NP.mk z.2 k r (q z.1)
end
section
theorem EW.varC {x : Str} {pos : Pos} {ca : Addr} {v : AV} (hv : st.σ ca = some (.cell (some v))) (h : Q v st) (hc : env.cells.lookup x = some ca := by rfl) (hl : env.kindOf x = some .cell := by rfl)
   (hd : (x == ("__debug__" : Str)) = false := by decide +kernel) : EW p n b env (.Name x pos) Q X st :=
 GW.mk fun _ _ _ _ _ hA S => by
   refine xEA ((S.obj ca _ hv).1) fun w hw r => ?_
   cases w with
   | none => exact r.elim
   | some u => exact wpAny_Name (wpAny_loadName_cell hA.kind hl hc hw (NP.mk S (.refl _) r h)) hd
theorem storeC {x : Str} {ca : Addr} {o : Option AV} {a : AV} {Q : Unit → St → Prop} (hv : st.σ ca = some (.cell o)) (h : Q () (st.put ca (.cell (some a)))) (hc : env.cells.lookup x = some ca := by rfl) (hl : env.kindOf x = some .cell := by rfl) :
   GF p n b env VR a UR (fun v => storeName env x v) Q X st :=
 GF.mk fun _ _ _ _ _ _ hA S hu => by
   exact xEA ((S.obj ca _ hv).1) fun w hw _ => (wpAny_storeName_cell hA.kind hl hc hw fun h' hc' hs => NP.mk (S.setO (ao' := .cell (some _)) hv hs rfl rfl ⟨_, hc', hu⟩) (.refl _) trivial h)
theorem AsW.nameC {x : Str} {pos : Pos} {ca : Addr} {o : Option AV} {a : AV} {Q : Unit → St → Prop} (hv : st.σ ca = some (.cell o)) (h : Q () (st.put ca (.cell (some a)))) (hc : env.cells.lookup x = some ca := by rfl) (hl : env.kindOf x = some .cell := by rfl) :
   AsW p n b env (.Name x pos) a Q X st :=
 GF.mk fun _ _ _ _ _ _ hA S hu => wpAny_assign_Name (GF.at (f := fun v => storeName env x v) (storeC hv h hc hl) hA S hu (.refl _))
theorem XW.assignC {x : Str} {ca : Addr} {e : Expr} {pos' pos : Pos} {Q : AF → St → Prop} (H : EW p n b env e (fun a st1 => ∃ o, st1.σ ca = some (.cell o) ∧ Q .next (st1.put ca (.cell (some a)))) X st)
   (hc : env.cells.lookup x = some ca := by rfl) (hl : env.kindOf x = some .cell := by rfl) (hs : swapsWith e (some (.Name x pos')) pos.line env = pure false := by rfl) : XW p n b env (.Assign [.Name x pos'] e pos) Q X st :=
 GW.mk fun _ _ _ _ _ hA S => wpAny_Assign_Name (H.use hA S (.refl _) fun _ _ _ _ _ k1 _ S1 hv H1 => H1.elim fun o q =>
   wpAny_mono (GF.at (storeC (Q := fun _ st => Q .next st) q.1 q.2 hc hl) hA S1 hv k1) (fun _ _ z_ => z_.elim fun h2 _ st2 k2 S2 _ q => NP.mk S2 k2 .next q) fun _ _ e => e) hs
end
noncomputable def mkEnvC (scope : Scope) (L f : Addr) (q : Str) (cd : Value) : Env := { mkEnv scope L f q cd with cells := PySem.cellsFrom (L + 1) scope.names [] }
noncomputable def lookS (bs : List (String × AV)) (nm : Str) : Option AV := (bs.map fun x => (Str.ofString x.1, x.2)).reverse.lookup nm
noncomputable def cellσ (bs : List (String × AV)) : List (Str × Addr) → (Addr → Option AObj) → Addr → Option AObj
 | [], σ => σ
 | (nm, a) :: r, σ => upd (cellσ bs r σ) a (.cell (lookS bs nm))
theorem SlotR.or {h : Heap} {a c : Option AV} {v u : Option Value} (x : SlotR h a v) (y : SlotR h c u) : SlotR h (a.or c) (v.or u) := by
 cases a <;> cases v
 · exact y
 · exact x.elim
 · exact x.elim
 · exact x
set_option tactic.hygienic true in
theorem zipS {h : Heap} (nm : Str) : ∀ (bs : List (String × AV)) (ws : List Value), VRs h (bs.map (·.2)) ws → SlotR h (lookS bs nm) (((bs.map fun x => Str.ofString x.1).zip ws).reverse.lookup nm)
 | [], ws, hw => by cases hw; trivial
 | c :: r, ws, hw => by
   cases hw with | cons hv hr =>
   rename_i v vs
   have ih := zipS nm r vs hr
   unfold lookS at ih ⊢
   simp only [List.map_cons, List.reverse_cons, List.zip_cons_cons, List.lookup_append]
   refine ih.or ?_
   rw [List.lookup_cons, List.lookup_cons]
   cases nm == Str.ofString c.1 with
   | true => exact hv
   | false => trivial
theorem bindC_eq {k : Str → Option NameKind} {nm : Str} (hk : k nm = some .cell) : ∀ (bs : List (Str × Value)) (m : Str → Option Value), bindC k bs m nm = (bs.reverse.lookup nm).or (m nm)
 | [], m => rfl
 | (x, v) :: r, m => by
   rw [bindC, bindC_eq hk r, List.reverse_cons, List.lookup_append, Option.or_assoc]
   congr 1
   rw [List.lookup_cons]
   by_cases q : nm = x
   · subst q; simp [hk]
   · rw [beq_eq_false_iff_ne.mpr q]
     by_cases z : k x = some .local
     · rw [if_pos z]; rfl
     · rw [if_neg z]; simp [q]
theorem bindL_eq {k : Str → Option NameKind} {nm : Str} (hk : k nm = some .local) : ∀ (bs : List (Str × Value)) (m : Str → Option Value), bindL k bs m nm = (bs.reverse.lookup nm).or (m nm)
 | [], m => rfl
 | (x, v) :: r, m => by
   rw [bindL, bindL_eq hk r, List.reverse_cons, List.lookup_append, Option.or_assoc]
   congr 1
   rw [List.lookup_cons]
   by_cases q : nm = x
   · subst q; simp [hk]
   · rw [beq_eq_false_iff_ne.mpr q]
     by_cases z : k x = some .local
     · rw [if_pos z]; simp [q]
     · rw [if_neg z]; rfl
set_option tactic.hygienic true in
theorem cells_mem : ∀ (names : List (Str × NameKind)) (k : Nat) (acc : List (Str × Addr)) {nm : Str} {c : Addr}, (nm, c) ∈ PySem.cellsFrom k names acc → (nm, NameKind.cell) ∈ names ∨ (nm, c) ∈ acc
 | [], _, _, _, _, h => .inr h
 | (x, kind) :: r, k, acc, nm, c, h => by
   unfold PySem.cellsFrom at h
   split at h
   · rename_i hk
     rcases cells_mem r _ _ h with q | q
     · exact .inl (.tail _ q)
     · rcases List.mem_cons.mp q with q | q
       · cases q
         rw [show kind = .cell from by cases kind <;> first | rfl | (exact xft hk)]
         exact .inl (.head _)
       · exact .inr q
   · exact (cells_mem r _ _ h).imp (.tail _) id
set_option tactic.hygienic true in
theorem cells_some : ∀ (names : List (Str × NameKind)) (k : Nat) (acc : List (Str × Addr)) {nm : Str}, ((nm, NameKind.cell) ∈ names ∨ (acc.lookup nm).isSome = true) → ((PySem.cellsFrom k names acc).lookup nm).isSome = true
 | [], _, _, _, h => by rcases h with h | h; · cases h
                        · exact h
 | (x, kind) :: r, k, acc, nm, h => by
   unfold PySem.cellsFrom
   split
   · refine cells_some r _ _ ?_
     rcases h with h | h
     · rcases List.mem_cons.mp h with h | h
       · cases h; exact .inr (by simp [List.lookup_cons])
       · exact .inl h
     · refine .inr ?_
       rw [List.lookup_cons]
       cases nm == x with
       | true => rfl
       | false => exact h
   · rename_i hk
     refine cells_some r _ _ ?_
     rcases h with h | h
     · rcases List.mem_cons.mp h with h | h
       · cases h; exact (hk rfl).elim
       · exact .inl h
     · exact .inr h
theorem cells_names : ∀ (names : List (Str × NameKind)) (k : Nat) (acc : List (Str × Addr)), (PySem.cellsFrom k names acc).map (·.1) = ((names.filter (·.2 == .cell)).map (·.1)).reverse ++ acc.map (·.1)
 | [], _, _ => rfl
 | (x, kind) :: r, k, acc => by
   unfold PySem.cellsFrom
   cases hk : kind == NameKind.cell with
   | true => rw [if_pos rfl, cells_names r, List.filter_cons_of_pos (by exact hk)]; simp
   | false => rw [if_neg (by simp), cells_names r, List.filter_cons_of_neg (by simp [hk])]
theorem lookup_mem {α : Type} {nm : Str} {c : α} : ∀ {l : List (Str × α)}, (l.map (·.1)).Nodup → (nm, c) ∈ l → l.lookup nm = some c
 | (x, y) :: r, hn, h => by
   refine xA (List.nodup_cons.mp hn) fun h1 h2 => ?_
   rw [List.lookup_cons]
   rcases List.mem_cons.mp h with e | h
   · cases e; rw [beq_self_eq_true]
   · have : nm ≠ x := fun z => h1 (by rw [← z]; exact List.mem_map_of_mem (f := (·.1)) h)
     rw [beq_eq_false_iff_ne.mpr this]
     exact lookup_mem h2 h
section
variable {p : PC} {L : Addr} {outer : List Env} {h₀ : Heap} {s : Shared} {st : St} {hid : Hid}
theorem Sat.cells {bs : List (String × AV)} {cm : Str → Option Value} : ∀ (cs : List (Str × Addr)), (cs.Pairwise fun x y => x.2 ≠ y.2) → (∀ nm c, (nm, c) ∈ cs → s.heap.IsCell c (cm nm) ∧ Unt h₀ L st hid c ∧ SlotR h₀ (lookS bs nm) (cm nm)) → Sat p L outer h₀ s st hid →
   Sat p L outer h₀ s ⟨st.ρ, cellσ bs cs st.σ⟩ hid ∧ ∀ c, (∀ nm, (nm, c) ∉ cs) → cellσ bs cs st.σ c = st.σ c
 | [], _, _, S => ⟨S, fun _ _ => rfl⟩
 | (nm, a) :: r, hp, h, S => by
   refine xA (List.pairwise_cons.mp hp) fun h1 h2 => (xA (Sat.cells (bs := bs) r h2 (fun nm c hm => h nm c (.tail _ hm)) S) fun S1 k => (xAA (h nm a (.head _)) fun hc hu hs => ?_))
   have na : ∀ x, (x, a) ∉ r := fun x hm => h1 _ hm rfl
   refine xEA (id hc) fun ob e1 e2 => (xAA (priv_false.mp hu.2) fun v1 v2 v3 => ?_)
   have u : Unt h₀ L ⟨st.ρ, cellσ bs r st.σ⟩ hid a := ⟨hu.1, priv_false.mpr ⟨v1, (k a na).trans v2, v3⟩⟩
   have S2 := ((S1.hide u e1).unhideO (o := .cell (lookS bs nm)) v3 ⟨_, hc, hs⟩ S1.out).2
   refine ⟨S2, fun c hc => ?_⟩
   show upd (cellσ bs r st.σ) a _ c = _
   have hca : c ≠ a := fun z => hc nm (by rw [z]; exact .head _)
   rw [upd_ne _ _ hca]
   exact k c fun x hm => hc x (.tail _ hm)
end
section
set_option tactic.hygienic true in
theorem kds_of_code {K : Frag} {cd : Value} {q : Str} (e : codeIn K cd q = true) : kdsCode K cd = true := by
 unfold codeIn at e
 split at e
 · split at e
   · rename_i ho
     unfold kdsCode
     dsimp only
     rw [ho]
   · exact xft e
 · exact xft e
set_option tactic.hygienic true in
theorem callFnCC {f : Addr} {params : Arguments} {body : List Stmt} {scope : Scope} {dV : Value} {fo : Obj} {fd : FuncData} {as : List AV} {bs : List (String × AV)}
   (F : FnOK p f params body scope dV fo fd) (hbind : BindA p fd as bs) (hb : b ≠ .handler)
   (hloc : ∀ x ∈ bs, scope.names.lookup (Str.ofString x.1) = some .local ∨ scope.names.lookup (Str.ofString x.1) = some .cell) (hnd : (scope.names.map (·.1)).Nodup)
   (hco : scope.isCoroutine = false) (hgen : scope.isGenerator = false) (hk : scope.kind = .function)
   (H : ∀ L' q cd, kdsCode p.K cd = true → (∀ a, L' ≤ a → st.σ a = none) → SW p n .body (mkEnvC scope L' f q cd) body (fun fl st' => Q (retOf fl) ⟨st.ρ, st'.σ⟩) (fun c st' => X c ⟨st.ρ, st'.σ⟩) ⟨fun x => if scope.names.lookup (Str.ofString x) = some .local then lookS bs (Str.ofString x) else none, cellσ bs (PySem.cellsFrom (L' + 1) scope.names []) st.σ⟩) :
   CW p (n + 1) b env (.ref f) as Q X st := by
 refine GF.mk fun A outer h₀ s hid vs hA S hv => wpAny_call (xEA S.loc fun m hn hm => ?_)
 have hold : ∀ {h : Heap}, Sub p.base h → h.get? f = some fo := fun {h} k => k _ _ (p.hK _ _ F.look)
 refine codeAny_call_function (fd := fd) (by have := hA.depth; show A.depth < 1000; lia) (hold (S.base.trans S.sub)) F.data (by rw [F.scope]; exact hco) (by rw [F.scope]; exact hgen) F.body
   ((codeRec_of p.hK F.code).keeps (S.base.trans S.sub)) ?_
 refine hbind _ _ _ _ _ _ _ _ _ _ S hv fun h₁ s₁ ws k₁ S₁ hw => (xEA S₁.loc fun m₁ hn₁ hm₁ => ?_)
 rw [F.clos]
 refine wpAny_newFunctionEnv_cells (by rw [F.scope]; exact hk) (fun x hx => ?_) fun envC henv s₂ IC => ⟨?_, codeAny_func ?_⟩
 · have hx1 := (List.of_mem_zip hx).1
   refine xEA (List.mem_map.mp hx1) fun y hy e => ?_
   rw [F.scope, ← e]
   refine (hloc y hy).imp id fun z => ⟨z, cells_some _ _ _ (.inl (PySem.mem_of_lookup z))⟩
 · exact (p.hT.nolimit.keeps (S₁.base.trans S₁.sub)).keeps IC.toInCall.keep
 refine xEE IC.toInCall.same fun h' tk e2 => ?_
 have hse : ∀ e, e ∈ (if b = .comp then outer else env :: outer) → e ∈ outer ∨ (e.scope.kind ≠ .module ∧ e.frame = some env.locals) := fun e he => by
   split at he
   · exact .inl he
   · rename_i hc
     rcases List.mem_cons.mp he with rfl | he
     · exact .inr ⟨by rw [hA.kind]; decide, hA.frame hc⟩
     · exact .inl he
 have henv2 : envC = mkEnvC scope s₁.heap.objs.size f (fd.qualname ++ Str.ofString ".<locals>.") fd.code := by
   rw [henv]
   unfold newEnv mkEnvC mkEnv
   rw [F.scope, F.glob, F.bi]
 rw [henv2] at IC ⊢
 have kOf : ∀ x, (mkEnvC scope s₁.heap.objs.size f (fd.qualname ++ Str.ofString ".<locals>.") fd.code).kindOf x = scope.names.lookup x := fun _ => rfl
 have SE := S₁.enter (s' := s₂) (L' := s₁.heap.objs.size) (ρ' := fun x => if scope.names.lookup (Str.ofString x) = some .local then lookS bs (Str.ofString x) else none) hn₁ rfl IC.toInCall.ns IC.toInCall.keep
   (fun x av e => by
     by_cases z : scope.names.lookup (Str.ofString x) = some .local
     · rw [if_pos z] at e
       rw [bindL_eq (by rw [kOf]; exact z), Option.or_none]
       have q := zipS (Str.ofString x) bs ws hw
       rw [e] at q
       cases q2 : ((bs.map fun x => Str.ofString x.1).zip ws).reverse.lookup (Str.ofString x) with
       | none => rw [q2] at q; exact q.elim
       | some v => rw [q2] at q; exact ⟨v, rfl, q⟩
     · rw [if_neg z] at e; exact xns e) (by rw [e2]) (by rw [e2]) hse
 have free : ∀ a, s₁.heap.objs.size ≤ a → h₁.get? a = none ∧ st.σ a = none ∧ hid a = none := fun a ha => by
   refine ⟨?_, ?_, ?_⟩
   · cases q : h₁.get? a with
     | none => rfl
     | some o => exact absurd (Nat.lt_of_lt_of_le (Heap.lt_size (S₁.sub _ _ q)) ha) (Nat.lt_irrefl _)
   · cases q : st.σ a with
     | none => rfl
     | some o => exact absurd (Nat.lt_of_lt_of_le (S₁.privLt (priv_obj q)) ha) (Nat.lt_irrefl _)
   · cases q : hid a with
     | none => rfl
     | some o => exact absurd (Nat.lt_of_lt_of_le (S₁.privLt (priv_hid q)) ha) (Nat.lt_irrefl _)
 have hLlt : env.locals < s₁.heap.objs.size := S₁.privLt (priv_self ..)
 have SC := (Sat.cells (bs := bs) (cm := bindC (mkEnvC scope s₁.heap.objs.size f (fd.qualname ++ Str.ofString ".<locals>.") fd.code).kindOf ((bs.map fun x => Str.ofString x.1).zip ws) fun _ => none) (PySem.cellsFrom (s₁.heap.objs.size + 1) scope.names []) IC.apart (fun nm c hm => by
   have hlt : s₁.heap.objs.size < c := IC.above nm c hm
   refine xAA (free c (Nat.le_of_lt hlt)) fun f1 f2 f3 => ?_
   have hcn : scope.names.lookup nm = some .cell := by
     rcases cells_mem _ _ _ hm with q | q
     · exact lookup_mem hnd q
     · cases q
   refine ⟨?_, ⟨f1, priv_false.mpr ⟨Nat.ne_of_gt hlt, f2, ?_⟩⟩, ?_⟩
   · refine IC.cell nm c (lookup_mem ?_ hm)
     show ((PySem.cellsFrom (s₁.heap.objs.size + 1) scope.names []).map (·.1)).Nodup
     rw [cells_names, List.map_nil, List.append_nil]
     exact (List.reverse_perm _).nodup_iff.mpr (hnd.sublist (List.Sublist.map _ (List.filter_sublist ..)))
   · rw [upd_ne _ _ (Nat.ne_of_gt (Nat.lt_trans hLlt hlt))]; exact f3
   · rw [bindC_eq (by rw [kOf]; exact hcn), Option.or_none]
     exact zipS nm bs ws hw) SE).1
 have hA' : AOK n .body (A.deeper (mkEnvC scope s₁.heap.objs.size f (fd.qualname ++ Str.ofString ".<locals>.") fd.code)) (mkEnvC scope s₁.heap.objs.size f (fd.qualname ++ Str.ofString ".<locals>.") fd.code) (if b = .comp then outer else env :: outer) := by
   refine ⟨?_, fun _ => hA.handled hb, ?_, ?_, hk, fun _ => rfl, rfl, rfl⟩
   · show A.frames.map _ = _
     rw [hA.frames]; rfl
   · show A.depth + 1 + 20 * n ≤ 900
     have := hA.depth; lia
   · show A.units + 3 + 100 * n ≤ 9000
     have := hA.units; lia
 refine wpAny_mono (H _ _ _ (kds_of_code F.code) (fun a ha => (free a ha).2.1) _ _ _ _ _ hA' SC) (fun fl s₂ z_ => z_.elim fun h₂ af st₂ k₂ S₂ r q => ?_) fun x s₂ zy1 => xEEEAAA zy1 fun h₂ cls st₂ k₂ S₂ hx q => ?_
 · have SL := S₁.leave k₂ hm₁ S₂
   cases r with
   | next => exact ⟨h₂, _, _, k₁.trans k₂, SL, .none, q⟩
   | brk => exact ⟨h₂, _, _, k₁.trans k₂, SL, .none, q⟩
   | cont => exact ⟨h₂, _, _, k₁.trans k₂, SL, .none, q⟩
   | ret hv => exact ⟨h₂, _, _, k₁.trans k₂, SL, hv, q⟩
 · unfold leaving
   exact wpAny_bind (note_X hA' (by decide) S₂ hx fun h₃ S₃ hx₃ => flight_X S₃ hx₃ fun h₄ S₄ hx₄ => ⟨h₂, cls, _, k₁.trans k₂, S₁.leave k₂ hm₁ S₄, (XOK.leave hx₄).weaken (fun _ z => z) False.elim, q⟩)
end
noncomputable abbrev testTree (env : Env) (ifs : List Expr) : Sem Bool := forIn ifs true fun c r => if r = true then do let ok ← isTrue c env (eval c env); pure (ForInStep.yield ok) else pure (ForInStep.yield r)
structure CompAt (M : Model) (e : Expr) (d : Nat) (acc : Value) (env : Env) (g : Comprehension) (body : Sem Unit) : Prop where
 quiet : ∀ it, (Code.compLoop e d it acc env).quiet = true
 under : ∀ (A : Around) it, A.under (.compLoop e d it acc env) = A
 underS : ∀ (A : Around) it, A.under (.compStart e d it acc env) = A
 den : ∀ it, M.den (.compLoop e d it acc env) = ((standAt g.iter.pos >>= fun _ => pyNext it >>= fun r => match r with
     | none => pure (.done .next)
     | some v => letOwnedTupleGo g.target it v >>= fun _ => assign g.target env v >>= fun _ => testTree env g.ifs >>= fun ok =>
       if ok = true then body >>= fun _ => again (.compLoop e d it acc env) else again (.compLoop e d it acc env)) : Sem Fin).onRaise fun x => do noteFrame x env; theTreesLotGoes x
 denS : ∀ it, M.den (.compStart e d it acc env) = (compStart e d it acc env).onRaise fun x => do noteFrame x env; standAt theWindowsPlace
 gen : (clausesOf e)[d]? = some g
 sync : g.is_async = 0
noncomputable abbrev emitL (elt : Expr) (acc : Value) (env : Env) : Sem Unit := do let _ ← call (.builtin "list.append") [acc, ← eval elt env]
noncomputable abbrev emitS (elt : Expr) (acc : Value) (env : Env) : Sem Unit := do let v ← eval elt env; standAt elt.pos; let _ ← call (.builtin "set.add") [acc, v]
noncomputable abbrev emitD (k v : Expr) (d : Addr) (env : Env) : Sem Unit := do
 let kv ← eval k env
 let vv ← holding [kv] (eval v env)
 standAt { k.pos with endLine := v.pos.endLine, endCol := v.pos.endCol }
 holding [kv, vv] (dictSet d kv vv)
noncomputable abbrev nestB (e : Expr) (d : Nat) (acc : Value) (env : Env) (g : Comprehension) : Sem Unit := do
 let x ← eval g.iter env
 standAt g.iter.pos
 let x ← foldedSetIterable g.iter env x
 let _ ← runOwn (.compStart e d (← holding [x] (pyIter x)) acc env) env
theorem compAt_L {prog : Program} {w : World} {elt : Expr} {t i : Expr} {ifs : List Expr} {sc : Scope} {pos : Pos} {acc : Value} {env : Env} :
   CompAt (model prog w) (.ListComp elt [⟨t, i, ifs, 0⟩] sc pos) 0 acc env ⟨t, i, ifs, 0⟩ (emitL elt acc env) := ⟨fun _ => rfl, fun _ _ => rfl, fun _ _ => rfl, fun _ => rfl, fun _ => rfl, rfl, rfl⟩
theorem compAt_S2 {prog : Program} {w : World} {elt : Expr} {g : Comprehension} {t i : Expr} {ifs : List Expr} {sc : Scope} {pos : Pos} {acc : Value} {env : Env} :
   CompAt (model prog w) (.SetComp elt [g, ⟨t, i, ifs, 0⟩] sc pos) 1 acc env ⟨t, i, ifs, 0⟩ (emitS elt acc env) := ⟨fun _ => rfl, fun _ _ => rfl, fun _ _ => rfl, fun _ => rfl, fun _ => rfl, rfl, rfl⟩
theorem compAt_S1 {prog : Program} {w : World} {elt : Expr} {t i t' i' : Expr} {ifs ifs' : List Expr} {sc : Scope} {pos : Pos} {acc : Value} {env : Env} :
   CompAt (model prog w) (.SetComp elt [⟨t, i, ifs, 0⟩, ⟨t', i', ifs', 0⟩] sc pos) 0 acc env ⟨t, i, ifs, 0⟩ (nestB (.SetComp elt [⟨t, i, ifs, 0⟩, ⟨t', i', ifs', 0⟩] sc pos) 1 acc env ⟨t', i', ifs', 0⟩) := ⟨fun _ => rfl, fun _ _ => rfl, fun _ _ => rfl, fun _ => by simp only [nestB, bind_assoc, pure_bind]; rfl, fun _ => rfl, rfl, rfl⟩
theorem compAt_L2 {prog : Program} {w : World} {elt : Expr} {g : Comprehension} {t i : Expr} {ifs : List Expr} {sc : Scope} {pos : Pos} {acc : Value} {env : Env} :
   CompAt (model prog w) (.ListComp elt [g, ⟨t, i, ifs, 0⟩] sc pos) 1 acc env ⟨t, i, ifs, 0⟩ (emitL elt acc env) := ⟨fun _ => rfl, fun _ _ => rfl, fun _ _ => rfl, fun _ => rfl, fun _ => rfl, rfl, rfl⟩
theorem compAt_L1 {prog : Program} {w : World} {elt : Expr} {t i t' i' : Expr} {ifs ifs' : List Expr} {sc : Scope} {pos : Pos} {acc : Value} {env : Env} :
   CompAt (model prog w) (.ListComp elt [⟨t, i, ifs, 0⟩, ⟨t', i', ifs', 0⟩] sc pos) 0 acc env ⟨t, i, ifs, 0⟩ (nestB (.ListComp elt [⟨t, i, ifs, 0⟩, ⟨t', i', ifs', 0⟩] sc pos) 1 acc env ⟨t', i', ifs', 0⟩) := ⟨fun _ => rfl, fun _ _ => rfl, fun _ _ => rfl, fun _ => by simp only [nestB, bind_assoc, pure_bind]; rfl, fun _ => rfl, rfl, rfl⟩
theorem compAt_D {prog : Program} {w : World} {k v : Expr} {t i : Expr} {ifs : List Expr} {sc : Scope} {pos : Pos} {d : Addr} {env : Env} :
   CompAt (model prog w) (.DictComp k v [⟨t, i, ifs, 0⟩] sc pos) 0 (.ref d) env ⟨t, i, ifs, 0⟩ (emitD k v d env) := ⟨fun _ => rfl, fun _ _ => rfl, fun _ _ => rfl, fun _ => rfl, fun _ => rfl, rfl, rfl⟩
section
noncomputable abbrev No : Value → St → Prop := fun _ _ => False
noncomputable def CompW (p : PC) (n : Nat) (cenv : Env) (target : Expr) (ifs : List Expr) (inner : (St → Prop) → St → Prop) (G : (Addr → Option AObj) → Prop) : List AV → (St → Prop) → St → Prop
 | [], Q, st => G st.σ ∧ Q st
 | v :: r, Q, st => G st.σ ∧ AsW p n .comp cenv target v (fun _ st1 => TestsW p n cenv ifs (fun c st2 => if c then inner (CompW p n cenv target ifs inner G r Q) st2 else CompW p n cenv target ifs inner G r Q st2) st1) No st
noncomputable abbrev BodyW (p : PC) (n : Nat) (cenv : Env) (body : Sem Unit) (Q : St → Prop) (st : St) : Prop := GW p n .comp cenv UR body (fun _ => Q) No st
theorem comp_loopX {M : Model} {A : Around} {e : Expr} {d : Nat} {acc : Value} {env : Env} {g : Comprehension} {body : Sem Unit} {it : Value} {R : Result → Shared → Prop} (K : CompAt M e d acc env g body) (I : Nat → Shared → Prop)
   (turn : ∀ m s, I m s → wpAny M A (pyNext it) (fun r s₁ => match r with
     | none => R (.ok .next) s₁
     | some v => wpAny M A (letOwnedTupleGo g.target it v) (fun _ s₁' => wpAny M A (assign g.target env v) (fun _ s₂ => wpAny M A (testTree env g.ifs) (fun ok s₃ =>
           if ok = true then wpAny M A body (fun _ s₅ => ∃ m', m' < m ∧ I m' s₅) (fun _ _ => False) s₃
           else ∃ m', m' < m ∧ I m' s₃) (fun _ _ => False) s₂) (fun _ _ => False) s₁') (fun _ _ => False) s₁) (fun _ _ => False) s)
   (m : Nat) {s : Shared} (h : I m s) : codeAny M A (.compLoop e d it acc env) R s := by
 refine codeAny_loop (K.quiet it) I (fun m s hI => ?_) m h
 rw [K.under, K.den]
 refine wpAny_onRaise (wpAny_mono (Q := fun fin s' => match fin with | .done f => R (.ok f) s' | .again c' => c' = .compLoop e d it acc env ∧ ∃ m', m' < m ∧ I m' s') (E' := _) (E := fun _ _ => False) (wpAny_bind (wpAny_standAt (wpAny_bind (wpAny_mono (turn m s hI) (fun r s₁ h₁ => ?_) fun _ _ h' => h')))) (fun _ _ z => z) fun _ _ z => z.elim)
 cases r with
 | none => exact wpAny_pure h₁
 | some v =>
   refine wpAny_bind (wpAny_mono h₁ (fun _ s₁' h₁' => wpAny_bind (wpAny_mono h₁' (fun _ s₂ h₂ => wpAny_bind (wpAny_mono h₂ (fun ok s₃ h₃ => ?_) fun _ _ h' => h')) fun _ _ h' => h')) fun _ _ h' => h')
   cases ok with
   | false => exact wpAny_pure ⟨rfl, h₃⟩
   | true => exact wpAny_bind (wpAny_mono h₃ (fun _ s₅ h₅ => wpAny_pure ⟨rfl, h₅⟩) fun _ _ h' => h')
theorem comp_startX {prog : Program} {w : World} {A : Around} {e : Expr} {d : Nat} {acc : Value} {env : Env} {g : Comprehension} {body : Sem Unit} {it : Value} {R : Result → Shared → Prop} {s : Shared} (K : CompAt (model prog w) e d acc env g body)
   (h0 : codeAny (model prog w) A (.compLoop e d it acc env) R s) (h : wpAny (model prog w) A (pyIter it) (fun it' s' => it' = it ∧ s' = s) (fun _ _ => False) s) : codeAny (model prog w) A (.compStart e d it acc env) R s := by
 refine codeAny_of_tree ?_
 rw [K.underS, K.denS]
 refine wpAny_notedAt ?_
 unfold compStart
 rw [K.gen]
 simp only [Option.elim_some, K.sync, bne_self_eq_false, Bool.false_eq_true, if_false]
 refine wpAny_bind (wpAny_askSetting (wpAny_ite ?_))
 split
 · exact wpAny_bind (wpAny_pure (wpAny_pure ⟨K.quiet it, h0⟩))
 · refine wpAny_bind (wpAny_rule (wpAny_bind (wpAny_standAt (wpAny_bind (wpAny_mono h (fun it' s' h' => ?_) fun _ _ x => x.elim)))))
   refine xA h' fun zz1 zz2 => ?_; subst zz1; subst zz2
   exact wpAny_pure ⟨K.quiet _, h0⟩
theorem comp_loopW {A : Around} {outer : List Env} {h₀ h₁ : Heap} {hid : Hid} {e : Expr} {d : Nat} {acc : Value} {cenv : Env} {g : Comprehension} {body : Sem Unit} {it : Value} {as : List Addr} {G : (Addr → Option AObj) → Prop} {J : List AV → List Obj → Prop} {inner : (St → Prop) → St → Prop}
   {items : List AV} {os : List Obj} {s : Shared} {Q : St → Prop} (K : CompAt (model p.prog p.w) e d acc cenv g body) (hin : ∀ Q st, inner Q st → BodyW p n cenv body Q st)
   (hA : AOK n .comp A cenv outer) (I : ItrOK p g.target it as h₀ G J) (hf : ∀ a ∈ as, hid a = none) (k : Sub h₀ h₁) (hJ : J items os) (S : Sat p cenv.locals outer h₁ s st (over hid as os)) (H : CompW p n cenv g.target g.ifs inner G items Q st) :
   codeAny (model p.prog p.w) A (.compStart e d it acc cenv) (fun r s' => r = .ok .next ∧ NP p cenv.locals outer h₁ hid UR (fun _ => Q) () s') s := by
 have hh : A.handled = none := hA.handled (by decide)
 refine comp_startX K (comp_loopX K (fun m s' => ∃ l os st' h₂, m = l.length ∧ J l os ∧ Sub h₁ h₂ ∧ Sat p cenv.locals outer h₂ s' st' (over hid as os) ∧ CompW p n cenv g.target g.ifs inner G l Q st') ?_ items.length ⟨items, os, st, h₁, rfl, hJ, .refl _, S, H⟩) (I.again hJ hf S ⟨rfl, rfl⟩)
 intro m s' zz3; refine xEEEEAAAA zz3 fun l os' st' h₂ zz4 hJ' k2 S2 H2 => ?_; subst zz4
 cases l with
 | nil =>
   exact wpAny_mono (I.stop hJ' hh hf S2 (k.trans k2) H2.1 (P := fun s3 => (Except.ok Flow.next : Result) = .ok .next ∧ NP p cenv.locals outer h₁ hid UR (fun _ => Q) () s3) fun s3 h3 k3 S3 => ⟨rfl, NP.mk S3 (k2.trans k3) (y := ()) trivial H2.2⟩) (fun r' s3 zy1 => xA zy1 fun e q => by subst e; exact q) fun _ _ z => z
 | cons v r =>
   refine xA H2 fun hG H2 => ?_
   refine wpAny_mono (I.next hJ' hh hf S2 (k.trans k2) hG (P := fun u s4 => wpAny (model p.prog p.w) A (PySem.assign g.target cenv u) (fun _ s₂ => wpAny (model p.prog p.w) A (testTree cenv g.ifs) (fun ok s₃ =>
           if ok = true then wpAny (model p.prog p.w) A body (fun _ s₅ => ∃ m', m' < (v :: r).length ∧ ∃ l os st' h₂, m' = l.length ∧ J l os ∧ Sub h₁ h₂ ∧ Sat p cenv.locals outer h₂ s₅ st' (over hid as os) ∧ CompW p n cenv g.target g.ifs inner G l Q st') (fun _ _ => False) s₃
           else ∃ m', m' < (v :: r).length ∧ ∃ l os st' h₂, m' = l.length ∧ J l os ∧ Sub h₁ h₂ ∧ Sat p cenv.locals outer h₂ s₃ st' (over hid as os) ∧ CompW p n cenv g.target g.ifs inner G l Q st') (fun _ _ => False) s₂) (fun _ _ => False) s4)
       fun s4 h4 os4 u k4 j4 S4 hu => ?_) (fun r' s4 zy2 => xEA zy2 fun u e q => by subst e; exact q) fun _ _ z => z
   refine wpAny_mono (H2 _ _ _ _ _ _ hA S4 hu) (fun _ s5 z_ => z_.elim fun h5 _ st5 k5 S5 _ q5 => (tests_wp (R := fun _ _ => True) hA g.ifs q5 S5 fun c s6 h6 st6 k6 S6 q6 => ?_)) fun _ _ e => EP.never e
   have kk : Sub h₁ h6 := ((k2.trans k4).trans k5).trans k6
   cases c with
   | false => exact ⟨r.length, by simp, r, os4, st6, h6, rfl, j4, kk, S6, q6⟩
   | true => exact wpAny_mono ((hin _ _ q6).run _ _ _ _ _ hA S6) (fun _ s7 z_ => z_.elim fun h7 _ st7 k7 S7 _ q7 => ⟨r.length, by simp, r, os4, st7, h7, rfl, j4, kk.trans k7, S7, q7⟩) fun _ _ e => EP.never e
theorem nestW {e : Expr} {d : Nat} {acc : Value} {cenv : Env} {g : Comprehension} {body : Sem Unit} {inner : (St → Prop) → St → Prop} {Q : St → Prop} (K : CompAt (model p.prog p.w) e d acc cenv g body) (hin : ∀ Q st, inner Q st → BodyW p n cenv body Q st)
   (H : ItE p n .comp cenv g.target g.iter (fun items G st1 => CompW p n cenv g.target g.ifs inner G items Q st1) No st) (hs : ∀ x, foldedSetIterable g.iter cenv x = pure x := by intro _; rfl) : BodyW p n cenv (nestB e d acc cenv g) Q st := by
 refine GW.mk fun A outer h₀ s hid hA S => (wpAny_mono (E := fun _ _ => False) (Q := NP p cenv.locals outer h₀ hid UR fun _ => Q) ?_ (fun _ _ z => z) fun _ _ z => z.elim)
 have H' := H _ _ _ _ _ (fun it s2 => codeAny (model p.prog p.w) A (.compStart e d it acc cenv) (fun r s' => r = .ok .next ∧ NP p cenv.locals outer h₀ hid UR (fun _ => Q) () s') s2) hA S fun s2 h2 it as os J items G st1 k02 I hf hos hJ S2 hQ =>
   codeAny_mono (comp_loopW K hin hA I hf (.refl _) hJ S2 hQ) fun r s' hr => ⟨hr.1, hr.2.elim fun h3 y st3 k3 S3 r3 q3 => NP.mk S3 (k02.trans k3) r3 q3⟩
 refine wpAny_bind (wpAny_mono H' (fun x s1 h1 => wpAny_bind (wpAny_standAt (wpAny_bind (wpAny_of_eq (hs x) (wpAny_bind (wpAny_holding (wpAny_mono h1 (fun it s2 h2 => (wpAny_bind (wpAny_runOwn (codeAny_mono h2 fun r s3 hr => ?_)))) fun _ _ e => (EP.never e).elim))))))) fun _ _ e => (EP.never e).elim)
 revert hr; intro zz6; refine xA zz6 fun zz5 hr => ?_; subst zz5
 exact wpAny_pure hr
end
noncomputable def NewA (p : PC) (t : Sem Value) (ao : AObj) : Prop := ∀ {A L outer h₀ s st hid E} {Q : Value → Shared → Prop}, Sat p L outer h₀ s st hid →
 (∀ D s', D < s'.heap.objs.size → st.σ D = none → Sat p L outer h₀ s' (st.put D ao) hid → Q (.ref D) s') → wpAny (model p.prog p.w) A t Q E s
theorem newA_list {p : PC} : NewA p (newList []) (.list []) := fun {_ _ _ _ s _ _ _ _} S h => by
 unfold newList
 exact wpAny_newObj_type (xA (S.pushO (s' := { s with heap := s.heap.push (lstObj [] 0) }) (.list []) rfl rfl rfl ⟨[], 0, Heap.get?_push_size _ rfl, .nil⟩) fun f S' => (h _ _ (by rw [Heap.size_push]; exact Nat.lt_succ_self _) f S')) (by show (0 : Nat) ≤ sizeLine; decide)
theorem newA_dict {p : PC} : NewA p newDict (.dict [] 0) := fun {_ _ _ _ s _ _ _ _} S h => by
 simp only [newDict, newObj]
 exact wpAny_bind (wpAny_alloc (wpAny_pure (xA (S.pushO (s' := { s with heap := s.heap.push { cls := .type "dict", data := .dict #[] } }) (.dict [] 0) rfl rfl rfl ⟨[], ⟨_, #[], Heap.get?_push_size _ rfl, ⟨rfl, rfl, rfl⟩, rfl, fun _ he => by simp at he, .nil, .nil⟩, .nil, noSys S⟩) fun f S' => (h _ _ (by rw [Heap.size_push]; exact Nat.lt_succ_self _) f S'))))
theorem cells_app : ∀ (names : List (Str × NameKind)) (k : Nat) (acc cl : List (Str × Addr)), PySem.cellsFrom k names (acc ++ cl) = PySem.cellsFrom k names acc ++ cl
 | [], _, _, _ => rfl
 | (x, kind) :: r, k, acc, cl => by
   unfold PySem.cellsFrom
   split
   · exact cells_app r (k + 1) ((x, k) :: acc) cl
   · exact cells_app r k acc cl
theorem newEnv_comp {M : Model} {A : Around} {E : Value → Shared → Prop} {s : Shared} {scope : Scope} {cl : List (Str × Addr)} {env : Env} {Q : Env → Shared → Prop}
   (h : Q { scope := scope, locals := s.heap.objs.size, globals := env.globals, cells := PySem.cellsFrom (s.heap.objs.size + 1) scope.names cl, qual := env.qual, func := none, code := env.code, frame := env.frame, builtins := env.builtins }
     { s with heap := pushCells (s.heap.push { cls := .type "dict", data := .dict #[] }) scope.names }) :
   wpAny M A (newFunctionEnv scope env.globals cl [] env.qual none .none (some env)) Q E s := by
 simp only [newFunctionEnv, Option.isSome_some, if_true]
 refine wpAny_bind (wpAny_alloc ?_)
 refine wpAny_bind (wpAny_layCells _ (fun name kind cells => by cases hkc : kind == NameKind.cell <;> simp [hkc]) _ _ _ _ ?_)
 rw [show ({ s with heap := s.heap.push { cls := .type "dict", data := .dict #[] } } : Shared).heap.objs.size = s.heap.objs.size + 1 from Heap.size_push ..]
 refine wpAny_bind ?_
 rw [List.forIn_nil]
 exact wpAny_pure (wpAny_pure h)
noncomputable abbrev compEnvX (scope : Scope) (cl : List (Str × Addr)) (C : Addr) (env : Env) : Env := compEnvC scope (PySem.cellsFrom (C + 1) scope.names cl) C env
section
variable {p : PC} {n : Nat} {b : Mode} {env : Env} {X : Value → St → Prop} {st : St} {A : Around} {outer : List Env} {h₀ : Heap} {s : Shared} {hid : Hid}
theorem in_over : ∀ (as : List Addr) (os : List Obj) (hid : Hid), as.Nodup → as.length = os.length → ∀ a ∈ as, ∃ o, over hid as os a = some (.raw o)
 | [], _, _, _, _, _, ha => by cases ha
 | _ :: _, [], _, _, hl, _, _ => by cases hl
 | b :: as, o :: os, hid, hnd, hl, a, ha => by
   have hnd' := List.nodup_cons.mp hnd
   rcases List.mem_cons.mp ha with rfl | ha
   · refine ⟨o, ?_⟩
     show over (upd hid a (.raw o)) as os a = _
     rw [← over_upd as os hnd'.1, upd_same]
   · exact in_over as os _ hnd'.2 (by simpa using hl) a ha
theorem comp_go {e : Expr} {g : Comprehension} {newAcc : Sem Value} {ao : AObj} {scope : Scope} {cl : List (Str × Addr)} {body : Addr → Env → Sem Unit} {inner : Addr → Addr → (St → Prop) → St → Prop} {it : Value} {as : List Addr} {os : List Obj} {J : List AV → List Obj → Prop} {items : List AV}
   {G : (Addr → Option AObj) → Prop} {RR : Value → Addr → Result → Shared → Prop} {E : Value → Shared → Prop} {h2 : Heap} {Q : Addr → St → Prop}
   (hA : AOK n b A env outer) (hb : b ≠ .handler) (hkind : scope.kind = .function) (hN : NewA p newAcc ao) (K : ∀ D cenv, CompAt (model p.prog p.w) e 0 (.ref D) cenv g (body D cenv))
   (hin : ∀ C D Q st, inner C D Q st → BodyW p n (compEnvX scope cl C env) (body D (compEnvX scope cl C env)) Q st) (I : ItrOK p g.target it as h2 G J) (hf : ∀ a ∈ as, hid a = none) (hJ : J items os) (hos : as.length = os.length)
   (S : Sat p env.locals outer h2 s st (over hid as os))
   (H : ∀ C D, st.σ D = none → D < C → (∀ a, C ≤ a → st.σ a = none) → CompW p n (compEnvX scope cl C env) g.target g.ifs (inner C D) G items (Q D) ⟨fun _ => none, cellσ [] (PySem.cellsFrom (C + 1) scope.names []) (upd st.σ D ao)⟩)
   (hR : ∀ D C s' h₄ st' m', Sub h2 h₄ → hid C = none → st.σ D = none → Sat p env.locals outer h₄ s' ⟨st.ρ, st'.σ⟩ (upd hid C (.frame m')) → Q D st' → RR (.ref D) C (.ok .next) s') :
   wpAny (model p.prog p.w) A newAcc (fun acc s₃ => wpAny (model p.prog p.w) A (newFunctionEnv scope env.globals cl [] env.qual none .none (some env)) (fun cenv s₄ =>
     codeAny (model p.prog p.w) A (.compStart e 0 it acc { cenv with scope := relabel scope env }) (RR acc cenv.locals) s₄) E s₃) E s := by
 refine hN S fun D s3 hDlt hDn S3 => newEnv_comp ?_
 have hLa : env.locals ∉ as := fun z => by refine xE (in_over as os hid I.nodup hos _ z) fun o e => ?_; have := S.locH; rw [e] at this; exact xsn this
 have hLh : hid env.locals = none := by
   cases q : hid env.locals with
   | none => rfl
   | some c => have := ext_over as os I.nodup hf _ _ q; rw [S.locH] at this; exact xns this
 refine xEA S3.loc fun m hn hmv => ?_
 have ok := cellsFrom_ok scope.names (s3.heap.push { cls := .type "dict", data := .dict #[] }) (s3.heap.objs.size + 1) [] ⟨fun _ _ hm => (nomatch hm), List.Pairwise.nil⟩ (by rw [Heap.size_push]; exact Nat.le_refl _)
 rw [Heap.size_push] at ok
 have kk : Sub s3.heap (pushCells (s3.heap.push { cls := .type "dict", data := .dict #[] }) scope.names) := fun a o e => pushCells_keeps _ _ a o (Heap.get?_push_of_some _ e)
 have hse : ∀ e, e ∈ (if b = .comp then outer else env :: outer) → e ∈ outer ∨ (e.scope.kind ≠ .module ∧ e.frame = some env.locals) := fun e he => by
   split at he
   · exact .inl he
   · rename_i hc
     rcases List.mem_cons.mp he with rfl | he
     · exact .inr ⟨by rw [hA.kind]; decide, hA.frame hc⟩
     · exact .inl he
 have S4 := S3.enter (s' := { s3 with heap := pushCells (s3.heap.push { cls := .type "dict", data := .dict #[] }) scope.names }) (ρ' := fun _ => none) hn rfl ((Heap.Ns.new s3.heap (.type "dict")).keeps (pushCells_keeps _ _)) kk (fun x av e => by exact xns e) rfl rfl hse
 have free : ∀ a, s3.heap.objs.size ≤ a → h2.get? a = none ∧ (st.put D ao).σ a = none ∧ over hid as os a = none := fun a ha => by
   refine ⟨?_, ?_, ?_⟩
   · cases q : h2.get? a with
     | none => rfl
     | some o => exact absurd (Nat.lt_of_lt_of_le (Heap.lt_size (S3.sub _ _ q)) ha) (Nat.lt_irrefl _)
   · cases q : (st.put D ao).σ a with
     | none => rfl
     | some o => exact absurd (Nat.lt_of_lt_of_le (S3.privLt (priv_obj q)) ha) (Nat.lt_irrefl _)
   · cases q : over hid as os a with
     | none => rfl
     | some o => exact absurd (Nat.lt_of_lt_of_le (S3.privLt (priv_hid q)) ha) (Nat.lt_irrefl _)
 have hLlt : env.locals < s3.heap.objs.size := S3.privLt (priv_self ..)
 have SC := (Sat.cells (bs := []) (cm := fun _ => none) (PySem.cellsFrom (s3.heap.objs.size + 1) scope.names []) ok.apart (fun nm c hm => by
   refine xA (ok.empty nm c hm) fun hc hle => ?_
   have hlt : s3.heap.objs.size < c := hle
   refine xAA (free c (Nat.le_of_lt hlt)) fun f1 f2 f3 => ?_
   exact ⟨hc, ⟨f1, priv_false.mpr ⟨Nat.ne_of_gt hlt, f2, by rw [upd_ne _ _ (Nat.ne_of_gt (Nat.lt_trans hLlt hlt))]; exact f3⟩⟩, trivial⟩) S4).1
 rw [over_upd as os hLa] at SC
 have hf' : ∀ a ∈ as, (upd hid env.locals (HC.frame m)) a = none := fun a ha => by
   rw [upd_ne _ _ fun z => hLa (by rw [← z]; exact ha)]; exact hf a ha
 have hA' : AOK n .comp A (compEnvX scope cl s3.heap.objs.size env) (if b = .comp then outer else env :: outer) := ⟨by rw [hA.frames, if_pos rfl], fun _ => hA.handled hb, hA.depth, hA.units, hkind, fun z => (z rfl).elim, hA.glob, hA.bi⟩
 have HH := H s3.heap.objs.size D hDn hDlt fun a ha => by
   have := (free a ha).2.1
   have e : upd st.σ D ao a = none := this
   have ne : a ≠ D := fun z => by rw [z] at ha; exact absurd (Nat.lt_of_lt_of_le hDlt ha) (Nat.lt_irrefl _)
   rwa [upd_ne _ _ ne] at e
 refine codeAny_mono (comp_loopW (K D _) (hin _ D) hA' I hf' (.refl _) hJ SC HH) fun r s' hr => ?_
 revert hr; intro zz2; refine xA zz2 fun zz1 hr => ?_; subst zz1
 refine hr.elim fun h5 _ st5 k5 S5 _ q5 => (xEA S5.loc fun mC hnC _ => ?_)
 have S0 : ∀ e ∈ outer, e.scope.kind ≠ .module ∧ ∃ L' m, e.frame = some L' ∧ hid L' = some (.frame m) := fun en he => by
   exact xAEEA (S.out en he) fun q1 L' m1 q2 q3 => ⟨q1, L', m1, q2, over_frame as os q3⟩
 have SL : Sat p env.locals outer h5 s' ⟨st.ρ, st5.σ⟩ hid := Sat.leaveG hLh k5 hmv S0 S5
 have CL : s3.heap.objs.size ≠ env.locals := Nat.ne_of_gt hLlt
 have Ch : hid s3.heap.objs.size = none := by have := S5.locH; rwa [upd_ne _ _ CL] at this
 have Cu : Unt h5 env.locals ⟨st.ρ, st5.σ⟩ hid s3.heap.objs.size := ⟨S5.locF, priv_false.mpr ⟨CL, S5.locS, Ch⟩⟩
 exact hR D _ s' h5 st5 mC k5 Ch hDn (SL.hideF Cu hnC) q5
theorem EW.compG {e : Expr} {g : Comprehension} {gs : List Comprehension} {newAcc : Sem Value} {ao : AObj} {scope : Scope} {pos : Pos} {cl : List (Str × Addr)} {body : Addr → Env → Sem Unit} {inner : Addr → Addr → (St → Prop) → St → Prop}
   (he : eval e env = comprehension e scope env pos newAcc false (eval g.iter env)) (hcl : clausesOf e = g :: gs) (hclos : closureFor scope env = pure cl) (hnames : ∀ x ∈ scope.names, x.2 = .local → scope.names.lookup x.1 = some .local)
   (hN : NewA p newAcc ao) (K : ∀ D cenv, CompAt (model p.prog p.w) e 0 (.ref D) cenv g (body D cenv)) (hb : b ≠ .handler)
   (hin : ∀ C D Q st, inner C D Q st → BodyW p n (compEnvX scope cl C env) (body D (compEnvX scope cl C env)) Q st)
   (H : ItE p n b env g.target g.iter (fun items G st1 => ∀ C D, st1.σ D = none → D < C → (∀ a, C ≤ a → st1.σ a = none) →
     CompW p n (compEnvX scope cl C env) g.target g.ifs (inner C D) G items (fun st2 => (∀ a o, st1.σ a = some o → st2.σ a = some o) ∧ ∃ o, st2.σ D = some o ∧ Q (.ref D) (st1.put D o)) ⟨fun _ => none, cellσ [] (PySem.cellsFrom (C + 1) scope.names []) (upd st1.σ D ao)⟩) X st)
   (hkind : scope.kind = .function := by rfl) (hs : ∀ x, foldedSetIterable g.iter env x = pure x := by intro _; rfl) : EW p n b env e Q X st := by
 refine GW.mk fun A outer h₀ s hid hA S => ?_
 show wpAny _ A (eval e env) _ _ s
 rw [he]
 refine wpAny_comprehension_free hcl hs hclos hkind hnames (H _ _ _ _ _ _ hA S fun s2 h2 it as os J items G st1 k02 I hf hos hJ S2 HQ => (comp_go hA hb hkind hN K hin I hf hJ hos S2 HQ fun D C s' h₄ st' m' k4 hC hD S6 zy1 => xAEA zy1 fun hk o ho hq => ⟨m', (S6.hidd C _ (upd_same ..)).1, fun h' hsb => (xA (S6.unhideF hC S.out) fun S7 u => ?_)⟩))
 have S8 : Sat p env.locals outer h₄ { s' with heap := h' } ⟨st1.ρ, st'.σ⟩ hid := S7.agree (s' := { s' with heap := h' }) (fun a o e nu => (hsb.2 a fun z => nu (z ▸ u)).trans e) rfl rfl
 refine NP.mk (S8.forget (st' := st1.put D o) (fun _ _ z => z) fun a x e => ?_) (k02.trans k4) (.ref D) hq
 have e' : upd st1.σ D o a = some x := e
 by_cases z : a = D
 · subst z; rw [upd_same] at e'; cases Option.some.inj e'; exact ho
 · rw [upd_ne _ _ z] at e'; exact hk a x e'
end
section
theorem emitL_w {elt : Expr} {D : Addr} {Q : St → Prop} (H : EW p n .comp cenv elt (fun a st1 => ∃ l, st1.σ D = some (.list l) ∧ l.length ≤ 16777216 ∧ Q (st1.put D (.list (l ++ [a])))) No st) : BodyW p n cenv (emitL elt (.ref D) cenv) Q st :=
 GW.mk fun A outer h₀ s hid hA S => wpAny_bind (H.use hA S (.refl _) fun v s1 h1 a st1 k1 _ S1 hv zy1 => xEAA zy1 fun l e hz q =>
   wpAny_bind (wpAny_mono (GF.at (f := fun vs => call (.builtin "list.append") vs) (call_append (n := n) (b := .comp) (env := cenv) (X := No) (Q := fun _ => Q) e q hz) hA S1 (VRs.cons (.ref D) (.cons hv .nil)) k1)
     (fun _ s2 z_ => z_.elim fun h2 _ st2 k2 S2 _ q2 => wpAny_pure (NP.mk S2 k2 (y := ()) trivial q2)) fun _ _ e => e))
theorem emitD_w {kx vx : Expr} {D : Addr} {Q : St → Prop} (H : EW p n .comp cenv kx (fun kv st1 => EW p n .comp cenv vx (fun vv st2 => ∃ x es ep, kv = .str x ∧ st2.σ D = some (.dict es ep) ∧ es.length ≤ 16777216 ∧ ∀ ep', Q (st2.put D (.dict (aset es x vv) ep'))) No st1) No st) : BodyW p n cenv (emitD kx vx D cenv) Q st :=
 GW.mk fun A outer h₀ s hid hA S => wpAny_bind (H.use hA S (.refl _) fun v s1 h1 a st1 k1 _ S1 hv H1 =>
   wpAny_bind (wpAny_holding (H1.use hA S1 k1 fun u s2 h2 c st2 k2 k12 S2 hu zy3 => xEEEAAA zy3 fun x es ep hx e hz q => wpAny_bind (wpAny_standAt (wpAny_holding (by
     subst hx
     have hv2 := hv.mono k12
     apply VR.onStr hv2; intro t
     refine xEAA ((S2.obj _ _ e).1) fun ds e1 r z => (wpAny_dictSet_pairs (is_str _ _) e1.dictOf (fun h' hd hs => (xE hd.dictAt fun ep' hd' => ?_)) (by rw [r.length, sizeLine_val]; exact hz))
     exact NP.mk (S2.setO (s' := { s2 with heap := h', toks := s2.toks + 1 }) (ao' := .dict (aset es x c) ep') e hs rfl rfl ⟨_, hd', r.set x hu, z⟩) k2 (y := ()) trivial (q ep')))))))
noncomputable def ItemW (p : PC) (n : Nat) (cenv : Env) (target : Expr) (ifs : List Expr) (elt : Expr) (σ : Addr → Option AObj) (v : AV) (r : Option AV) : Prop := ∀ st, (∀ a o, σ a = some o → st.σ a = some o) →
 AsW p n .comp cenv target v (fun _ st1 => TestsW p n cenv ifs (fun c st2 => if c then EW p n .comp cenv elt (fun a st3 => r = some a ∧ st3.σ = st.σ) No st2 else r = none ∧ st2.σ = st.σ) st1) No st
theorem AsW.mono {target : Expr} {v : AV} {Q Q' : Unit → St → Prop} (H : AsW p n b env target v Q X st) (h : ∀ st1, Q () st1 → Q' () st1) : AsW p n b env target v Q' X st :=
 GF.mk fun _ _ _ _ _ _ hA S hu => wpAny_mono (H _ _ _ _ _ _ hA S hu) (fun _ _ z_ => z_.elim fun h1 _ st1 k1 S1 r1 q => NP.mk S1 k1 r1 (h st1 q)) fun _ _ e => e
theorem TestsW.mono {Q Q' : Bool → St → Prop} (h : ∀ c st1, Q c st1 → Q' c st1) : ∀ (ifs : List Expr) {st : St}, TestsW p n cenv ifs Q st → TestsW p n cenv ifs Q' st
 | [], _, H => h _ _ H
 | _ :: r, _, H => GW.mono H (fun x st1 q => by cases x; exact h _ _ q; exact TestsW.mono h r q) fun _ _ z => z
set_option tactic.hygienic true in
theorem CompW.list {target : Expr} {ifs : List Expr} {elt : Expr} {G : (Addr → Option AObj) → Prop} {σ : Addr → Option AObj} {D : Addr} (hD : σ D = none) (hG : ∀ σ', (∀ a o, σ a = some o → σ' a = some o) → G σ') : ∀ (items : List AV) (rs : List (Option AV)), ElemsW (ItemW p n cenv target ifs elt σ) items rs →
   ∀ (done : List AV) (st : St) (Q : St → Prop), done.length + items.length ≤ 16777216 → (∀ a, a ≠ D → st.σ a = σ a) → st.σ D = some (.list done) → (∀ st', (∀ a, a ≠ D → st'.σ a = σ a) → st'.σ D = some (.list (done ++ rs.filterMap id)) → Q st') →
   CompW p n cenv target ifs (fun Q st => EW p n .comp cenv elt (fun a st1 => ∃ l, st1.σ D = some (.list l) ∧ l.length ≤ 16777216 ∧ Q (st1.put D (.list (l ++ [a])))) No st) G items Q st
 | [], _, hE, done, st, Q, hz, hk, hd, hQ => by
   cases hE
   exact ⟨hG _ fun a o e => by rw [hk a fun z => by rw [z, hD] at e; exact xns e]; exact e, hQ st hk (by simpa using hd)⟩
 | v :: r, _, hE, done, st, Q, hz, hk, hd, hQ => by
   cases hE with | cons he hr =>
   rename_i ro rs
   have hle : ∀ a o, σ a = some o → st.σ a = some o := fun a o e => by rw [hk a fun z => by rw [z, hD] at e; exact xns e]; exact e
   refine ⟨hG _ hle, (he st hle).mono fun st1 q1 => TestsW.mono (fun c st2 q2 => ?_) ifs q1⟩
   cases c with
   | false =>
     simp only [Bool.false_eq_true, if_false] at q2 ⊢
     refine xA q2 fun zz1 e2 => ?_; subst zz1
     exact CompW.list hD hG r rs hr done st2 Q (by simp at hz; lia) (fun a ha => by rw [e2]; exact hk a ha) (by rw [e2]; exact hd) (by simpa using hQ)
   | true =>
     simp only [if_true] at q2 ⊢
     refine GW.mono q2 (fun a st3 zy4 => xA zy4 fun e3 e4 => ?_) fun _ _ z => z
     subst e3
     refine ⟨done, by rw [e4]; exact hd, by simp at hz; lia, CompW.list hD hG r rs hr (done ++ [a]) _ Q (by simp at hz ⊢; lia) (fun x hx => ?_) (upd_same ..) (by simpa using hQ)⟩
     show upd st3.σ D _ x = _
     rw [upd_ne _ _ hx, e4]; exact hk x hx
theorem cells0 {names : List (Str × NameKind)} (h : ∀ x ∈ names, x.2 ≠ .cell) (k : Nat) : PySem.cellsFrom k names [] = [] := by
 induction names with
 | nil => rfl
 | cons x r ih =>
   obtain ⟨nm, kind⟩ := x
   unfold PySem.cellsFrom
   rw [if_neg]
   · exact ih fun y hy => h y (.tail _ hy)
   · intro q
     exact h _ (.head _) (by cases kind <;> first | rfl | (exact xft q))
theorem EW.lcompM {elt target iter : Expr} {ifs : List Expr} {scope : Scope} {pos : Pos} {cl : List (Str × Addr)} (hclos : closureFor scope env = pure cl)
   (H : ItE p n b env target iter (fun items G st1 => (∀ σ', (∀ a o, st1.σ a = some o → σ' a = some o) → G σ') ∧ items.length ≤ 16777216 ∧ ∃ rs, (∀ C, ElemsW (ItemW p n (compEnvC scope cl C env) target ifs elt st1.σ) items rs) ∧ ∀ D, st1.σ D = none → Q (.ref D) (st1.put D (.list (rs.filterMap id)))) X st)
   (hb : b ≠ .handler := by decide) (hcell : ∀ x ∈ scope.names, x.2 ≠ .cell := by decide +kernel) (hnames : ∀ x ∈ scope.names, x.2 = .local → scope.names.lookup x.1 = some .local := by decide +kernel) (hkind : scope.kind = .function := by rfl)
   (hs : ∀ x, foldedSetIterable iter env x = pure x := by intro _; rfl) : EW p n b env (.ListComp elt [⟨target, iter, ifs, 0⟩] scope pos) Q X st := by
 refine EW.compG (g := ⟨target, iter, ifs, 0⟩) (gs := []) (cl := cl) (body := fun D cenv => emitL elt (.ref D) cenv)
   (inner := fun C D Q st => EW p n .comp (compEnvX scope cl C env) elt (fun a st1 => ∃ l, st1.σ D = some (.list l) ∧ l.length ≤ 16777216 ∧ Q (st1.put D (.list (l ++ [a])))) No st)
   rfl rfl hclos hnames newA_list (fun _ _ => compAt_L) hb (fun C D Q st h => emitL_w h) ?_ hkind hs
 refine fun A outer h₀ s hid P hA S K => H A outer h₀ s hid P hA S fun s' h₁ it as os J items G st1 k I hf hl hJ S1 zy5 => xAAEA zy5 fun hG hz rs hE hq => K s' h₁ it as os J items G st1 k I hf hl hJ S1 fun C D hD hDC hC => ?_
 have e1 : compEnvX scope cl C env = compEnvC scope cl C env := by
   show compEnvC scope (PySem.cellsFrom (C + 1) scope.names cl) C env = _
   rw [show PySem.cellsFrom (C + 1) scope.names cl = cl from by have := cells_app scope.names (C + 1) [] cl; rw [cells0 hcell] at this; exact this]
 rw [e1, cells0 hcell]
 exact CompW.list hD hG items rs (hE C) [] _ _ (by simpa using hz) (fun a ha => upd_ne _ _ ha) (upd_same ..) fun st' h1 h2 => ⟨fun a o e => by rw [h1 a fun z => by rw [z, hD] at e; exact xns e]; exact e, _, h2, hq D hD⟩
theorem put_del (st : St) {D : Addr} {o : AObj} (hD : st.σ D = none) : (st.put D o).del D = st := by
 obtain ⟨ρ, σ⟩ := st
 show (⟨ρ, era (upd σ D _) D⟩ : St) = _
 congr 1
 funext a
 by_cases z : a = D
 · subst z; rw [era_same]; exact hD.symm
 · rw [era_ne _ z, upd_ne _ _ z]
theorem EW.lcomp {elt target iter : Expr} {ifs : List Expr} {scope : Scope} {pos : Pos} {cl : List (Str × Addr)} (hclos : closureFor scope env = pure cl)
   (H : ItE p n b env target iter (fun items G st1 => (∀ σ', (∀ a o, st1.σ a = some o → σ' a = some o) → G σ') ∧ items.length ≤ 16777216 ∧ ∃ rs, (∀ C, ElemsW (ItemW p n (compEnvC scope cl C env) target ifs elt st1.σ) items rs) ∧ Q (.lst (rs.filterMap id)) st1) X st)
   (hb : b ≠ .handler := by decide) (hcell : ∀ x ∈ scope.names, x.2 ≠ .cell := by decide +kernel) (hnames : ∀ x ∈ scope.names, x.2 = .local → scope.names.lookup x.1 = some .local := by decide +kernel) (hkind : scope.kind = .function := by rfl)
   (hs : ∀ x, foldedSetIterable iter env x = pure x := by intro _; rfl) : EW p n b env (.ListComp elt [⟨target, iter, ifs, 0⟩] scope pos) Q X st :=
 GW.frz (EW.lcompM hclos (fun A outer h₀ s hid P hA S K => H A outer h₀ s hid P hA S fun s' h₁ it as os J items G st1 k I hf hl hJ S1 zy5 => xAAEA zy5 fun hG hz rs hE hq => K s' h₁ it as os J items G st1 k I hf hl hJ S1 ⟨hG, hz, rs, hE, fun D hD => ⟨_, _, rfl, upd_same .., by rw [put_del _ hD]; exact hq⟩⟩) hb hcell hnames hkind hs)
end
noncomputable def nthS (p : Program) (i : Nat) : Stmt := p.main.body.getD i (.Pass ⟨0, 0, 0, 0⟩)
noncomputable def fnBody : Stmt → List Stmt
 | .FunctionDef _ _ b _ _ _ _ _ _ _ => b
 | _ => []
noncomputable def fnArgs : Stmt → Arguments
 | .FunctionDef _ a _ _ _ _ _ _ _ _ => a
 | _ => ⟨[], [], none, [], [], none, []⟩
noncomputable def fnScope : Stmt → Scope
 | .FunctionDef _ _ _ _ _ _ s _ _ _ => s
 | _ => { kind := .module, names := [], isGenerator := false, isCoroutine := false, more := [] }
noncomputable def clsBody : Stmt → List Stmt
 | .ClassDef _ _ _ b _ _ _ _ _ _ _ => b
 | _ => []
noncomputable abbrev P1 := PySem.Challenge.pw_nq0159_02
structure KB (p : PC) : Prop where
 enumerate : nsIn p.K mainGlobals (Str.ofString "enumerate") = some none
 str : nsIn p.K mainGlobals (Str.ofString "str") = some none
 sum : nsIn p.K mainGlobals (Str.ofString "sum") = some none
 len : nsIn p.K mainGlobals (Str.ofString "len") = some none
 range : nsIn p.K mainGlobals (Str.ofString "range") = some none
 list : nsIn p.K mainGlobals (Str.ofString "list") = some none
 max : nsIn p.K mainGlobals (Str.ofString "max") = some none
 min : nsIn p.K mainGlobals (Str.ofString "min") = some none
 int : nsIn p.K mainGlobals (Str.ofString "int") = some none
 set : nsIn p.K mainGlobals (Str.ofString "set") = some none
 iter : nsIn p.K mainGlobals (Str.ofString "iter") = some none
 tuple : nsIn p.K mainGlobals (Str.ofString "tuple") = some none
 bool : nsIn p.K mainGlobals (Str.ofString "bool") = some none
 stop : nsIn p.K mainGlobals (Str.ofString "StopIteration") = some none
 value : nsIn p.K mainGlobals (Str.ofString "ValueError") = some none
 key : nsIn p.K mainGlobals (Str.ofString "KeyError") = some none
theorem bb_str : bootBuiltins (Str.ofString "str") = some (.type "str") := by decide +kernel
theorem bb_len : bootBuiltins (Str.ofString "len") = some (.builtin "len") := by decide +kernel
theorem bb_max : bootBuiltins (Str.ofString "max") = some (.builtin "max") := by decide +kernel
theorem bb_int : bootBuiltins (Str.ofString "int") = some (.type "int") := by decide +kernel
theorem bb_set : bootBuiltins (Str.ofString "set") = some (.type "set") := by decide +kernel
theorem bb_iter : bootBuiltins (Str.ofString "iter") = some (.builtin "iter") := by decide +kernel
theorem bb_tuple : bootBuiltins (Str.ofString "tuple") = some (.type "tuple") := by decide +kernel
theorem bb_stop : bootBuiltins (Str.ofString "StopIteration") = some (.type "StopIteration") := by decide +kernel
theorem bb_value : bootBuiltins (Str.ofString "ValueError") = some (.type "ValueError") := by decide +kernel
theorem fmod_lt {a m : Int} (h : 0 < m) : 0 ≤ a.fmod m ∧ a.fmod m < m := ⟨Int.fmod_nonneg_of_pos _ h, Int.fmod_lt_of_pos _ h⟩
theorem KB.gens {p : PC} {N : Nat} (h : KB p) : KB (p.gens N) := ⟨h.1, h.2, h.3, h.4, h.5, h.6, h.7, h.8, h.9, h.10, h.11, h.12, h.13, h.14, h.15, h.16⟩
noncomputable def tagOf (which : Int) : Str := if which = 1 then Str.ofString "- " else Str.ofString "+ "
noncomputable def restF (tag line : Str) : Option Str := if (Str.ofString "  " == Txt.slice line none (some 2)) || (tag == Txt.slice line none (some 2)) then some (Txt.slice line (some 2) none) else none
theorem in2 (a b x : Str) : ((toDs [.str a, .str b]).any fun y => PyData.eqv y (toD (.str x))) = (a == x || b == x) := by
 simp [toDs, toD, PyData.eqv]
noncomputable def rS1 : Stmt := (fnBody (nthS P1 8)).headD (.Pass ⟨0, 0, 0, 0⟩)
noncomputable def rS2 : Stmt := (fnBody (nthS P1 8)).getD 1 (.Pass ⟨0, 0, 0, 0⟩)
noncomputable def rS3 : Stmt := (fnBody (nthS P1 8)).getD 2 (.Pass ⟨0, 0, 0, 0⟩)
theorem rS_all : fnBody (nthS P1 8) = [rS1, rS2, rS3] := rfl
section
variable {p : PC} {n : Nat} {L f : Addr} {q : Str} {cd : Value} {delta : List Str} {which : Int} {σ : Addr → Option AObj}
noncomputable def rst0 (delta : List Str) (which : Int) (σ : Addr → Option AObj) : St := ⟨fun x => [("delta", AV.lst (delta.map .str)), ("which", AV.int which)].reverse.lookup x, σ⟩
noncomputable def rst1 (delta : List Str) (which : Int) (σ : Addr → Option AObj) : St := (rst0 delta which σ).set "tag" (.str (tagOf which))
noncomputable def rst2 (delta : List Str) (which : Int) (σ : Addr → Option AObj) : St := (rst1 delta which σ).set "prefixes" (.tup [.str (Str.ofString "  "), .str (tagOf which)])
theorem restore_1 (hB : KB p) (hw : which = 1 ∨ which = 2) : XW p n .body (mkEnv (fnScope (nthS P1 8)) L f q cd) rS1 (fun fl st1 => fl = .next ∧ st1 = rst1 delta which σ) (fun _ _ => False) (rst0 delta which σ) := by
 refine XW.tryNo (SW.cons (XW.assign ?_))
 refine EW.tab2 ?h1 ?h2 ?h3
 case h1 => decide
 case h3 => rfl
 refine EW.callT (T := "int") ?c1 ?c2 ?c3 ?c4 ?c5 ?c6 ?c7
 case c1 => exact hB.int
 case c2 => exact bb_int
 case c4 => rfl
 case c5 => rfl
 case c6 => decide +kernel
 case c7 => decide +kernel
 refine AW.cons (LW.cons (EW.var rfl (LW.nil (call_int_int' ⟨which, rfl, ?_⟩))))
 rcases hw with rfl | rfl
 · exact .inl ⟨rfl, SW.nil ⟨rfl, rfl⟩⟩
 · exact .inr ⟨rfl, SW.nil ⟨rfl, rfl⟩⟩
theorem restore_2 : XW p n .body (mkEnv (fnScope (nthS P1 8)) L f q cd) rS2 (fun fl st1 => fl = .next ∧ st1 = rst2 delta which σ) (fun _ _ => False) (rst1 delta which σ) := by
 exact XW.assign (EW.tup (LW.cons (EW.str (LW.cons (EW.var rfl (LW.nil ⟨⟨rfl, rfl⟩, by simp⟩))))))
theorem restore_3 {x : Str} {st : St} (hy : st.ρ "line" = some (.str x)) (hp : st.ρ "prefixes" = some (.tup [.str (Str.ofString "  "), .str (tagOf which)])) (hz : x.length ≤ 1000) (hd : Dat (.str (Txt.slice x none (some 2)))) (ht : Dat (.tup [.str (Str.ofString "  "), .str (tagOf which)]))
   {test : Expr} (he : test = .Compare (.Subscript (.Name (Str.ofString "line") ⟨130, 11, 130, 15⟩) (.Slice none (some (.Constant (.int 2) 0 ⟨130, 17, 130, 18⟩)) none ⟨130, 16, 130, 18⟩) ⟨130, 11, 130, 19⟩) [.In] [.Name (Str.ofString "prefixes") ⟨130, 23, 130, 31⟩] ⟨130, 11, 130, 31⟩) :
   TW p n .body (mkEnv (fnScope (nthS P1 8)) L f q cd) test (fun c st1 => c = (restF (tagOf which) x).isSome ∧ st1 = st) (fun _ _ => False) st := by
 subst he
 refine TW.cmp (EW.cut (EW.var hy (OW.no (OW.yes (EW.int (cut_str .none (.int _) (EW.var hp (in_tup hd ht (truthy_bool ⟨?_, rfl⟩))) (by lia)))))))
 rw [in2]
 unfold restF
 split <;> simp_all
end
theorem restore_go {p : PC} {n : Nat} {f : Addr} {delta : List Str} {which : Int} {σ : Addr → Option AObj} (hB : KB p) (hw : which = 1 ∨ which = 2) 
   (hd : ∀ y ∈ delta, y.length ≤ 1000 ∧ Dat (.str (Txt.slice y none (some 2)))) (ht : Dat (.tup [.str (Str.ofString "  "), .str (tagOf which)])) :
   GenGo p n (fnBody (nthS P1 8)) (fnScope (nthS P1 8)) f [("delta", .lst (delta.map .str)), ("which", .int which)] (delta.filterMap (restF (tagOf which))) σ := by
 intro A N L q cd outer hBh h hidC Sa s oS hG hSn hk S
 have hO : AOK n .body (A.over (.func (fnBody (nthS P1 8)) (mkEnv (fnScope (nthS P1 8)) L f q cd)) []) (mkEnv (fnScope (nthS P1 8)) L f q cd) outer := hG.func rfl rfl rfl rfl
 refine seg_func ?_
 rw [show execs (fnBody (nthS P1 8)) (mkEnv (fnScope (nthS P1 8)) L f q cd) = execs [rS1, rS2, rS3] (mkEnv (fnScope (nthS P1 8)) L f q cd) from by rw [rS_all]]
 have R1 := restore_1 (p := p.gens N) (n := n) (L := L) (f := f) (q := q) (cd := cd) (delta := delta) (σ := σ) hB.gens hw
 have R2 := restore_2 (p := p.gens N) (n := n) (L := L) (f := f) (q := q) (cd := cd) (delta := delta) (which := which) (σ := σ)
 generalize rS1 = s1 at *
 generalize rS2 = s2 at *
 refine seg_execs_cons (seg_wrap (wpAny_mono (R1.run _ _ _ _ _ hO S) (fun fl t1 z_ => z_.elim fun h1 y st1 k1 S1 r1 q1 => ?_) fun _ _ z => z.never.elim))
 refine xA q1 fun zz1 zz2 => ?_; subst zz1; subst zz2
 cases r1
 refine seg_execs_cons (seg_wrap (wpAny_mono (R2.run _ _ _ _ _ hO S1) (fun fl t2 z_ => z_.elim fun h2 y st2 k2 S2 r2 q2 => ?_) fun _ _ z => z.never.elim))
 refine xA q2 fun zz3 zz4 => ?_; subst zz3; subst zz4
 cases r2
 refine seg_execs_cons (seg_For ?_)
 refine wpAny_mono ((ItE.of (p := p.gens N) (n := n) (b := .body) (target := .Name (Str.ofString "line") ⟨129, 8, 129, 12⟩) (X := fun _ _ => False) (Q := fun its G st1 => its = delta.map .str ∧ G = (fun σ => IsL σ (.lst (delta.map .str)) (delta.map .str)) ∧ st1 = rst2 delta which σ)
   (EW.var rfl ⟨_, _, iter_list (.inl rfl), rfl, rfl, rfl⟩)) _ _ _ _ _ _ hO S2 fun t3 h3 it as os J its G st3 k3 I hfr hlen hJ S3 hq => ?_) (fun x s3 hx => wpAny_mono hx (fun _ _ z => z) fun _ _ z => z.never) fun _ _ z => z.never
 refine xAA hq fun zz5 zz6 zz7 => ?_; subst zz5; subst zz6; subst zz7
 intro pp
 have hSas : Sa ∉ as := fun hm => by have := hfr Sa hm; rw [upd_same] at this; exact xsn this
 have has : ∀ a ∈ as, hidC a = none := fun a ha => by
   have := hfr a ha
   have hne : a ≠ Sa := fun z => hSas (z ▸ ha)
   rw [upd_ne _ _ hne] at this; exact this
 refine gen_loop (p := p.gens N) (x := "line") (F := restF (tagOf which)) (D := fun y => y.length ≤ 1000 ∧ Dat (.str (Txt.slice y none (some 2)))) (Inv := fun st => st.σ = σ ∧ st.ρ "prefixes" = some (.tup [.str (Str.ofString "  "), .str (tagOf which)])) (hs := h3)
   hG rfl rfl rfl rfl rfl rfl rfl (fun st y ⟨a, b⟩ => ⟨a, b⟩) (fun st y hy ⟨_, hp⟩ hl => restore_3 hl hp hy.1 hy.2 ht rfl) ?_ (fun st h => h.1) (fun st h => .inl rfl) I hSn has hSas ?_ delta [] os s t3 h3 _ oS (fun y hy => hd y hy) rfl hJ ⟨rfl, rfl⟩ ?_ ?_ (.refl _) S3
 · intro st y z hy hI hl hF
   have hz : z = Txt.slice y (some 2) none := by
     unfold restF at hF
     split at hF
     · cases Option.some.inj hF; rfl
     · exact xns hF
   subst hz
   exact EW.cut (EW.var hl (OW.yes (EW.int (OW.no (cut_str (.int _) .none ⟨rfl, rfl⟩ (by have := hy.1; lia))))))
 · intro u₀ u hR
   exact seg_end (.ok (.ret .none)) hR
 · exact (S.hidd _ _ (upd_same ..)).1
 · exact hk.trans ((k1.trans k2).trans k3)
section
noncomputable def methS (s : Stmt) (j : Nat) : Stmt := (clsBody s).getD j (.Pass ⟨0, 0, 0, 0⟩)
structure Ad where
 (cN iN dN dP dS cT iT get add prep ready act done find cyc : Addr)
theorem b_any {fd : FuncData} {A : Arguments} {as r} (h1 : fd.params = A) (h2 : fd.defaults = .none) (h3 : fd.kwdefaults = .none) (h : ∀ f : FuncData, bindArgs { f with params := A, defaults := .none, kwdefaults := .none } as = r) : bindArgs fd as = r := by
 have H := h fd
 revert H
 obtain ⟨a1, a2, a3, a4, a5, a6, a7, a8⟩ := fd
 simp only at h1 h2 h3
 subst h1 h2 h3
 exact id
structure FnK (p : PC) (f : Addr) (s : Stmt) (dV : Value) : Prop where
 ex : ∃ fo fd, FnOK p f (fnArgs s) (fnBody s) (fnScope s) dV fo fd
structure KS (p : PC) (a : Ad) : Prop where
 clsN : KCls p a.cN
 sNode : KSlot p a.cN (Str.ofString "node") a.dN 0
 sPred : KSlot p a.cN (Str.ofString "npredecessors") a.dP 1
 sSucc : KSlot p a.cN (Str.ofString "successors") a.dS 2
 initN : FnK p a.iN (methS (nthS P1 4) 1) .none
 nsN : nsIn p.K mainGlobals (Str.ofString "_NodeInfo") = some (some (.ref a.cN))
 keepN : keepIn p.K (.ref a.cN) = true
 makesN : makesIn p.K a.cN = true
 findN : findIn p.K (.ref a.cN) "__init__" = some (some (.ref a.iN))
 typeN : typeIn p.K (.ref a.iN) = some (.type "function")
 mGet : KMeth p a.cT (Str.ofString "_get_nodeinfo") a.get
 fGet : FnK p a.get (methS (nthS P1 6) 1) .none
 clsT : KCls p a.cT
 dictT : hasDictIn p.K a.cT = true
 t1 : takerIn p.K a.cT (Str.ofString "_node2info") = some none
 t2 : takerIn p.K a.cT (Str.ofString "_ready_nodes") = some none
 t3 : takerIn p.K a.cT (Str.ofString "_npassedout") = some none
 t4 : takerIn p.K a.cT (Str.ofString "_nfinished") = some none
 f1 : findIn p.K (.ref a.cT) (Str.ofString "_node2info") = some none
 f2 : findIn p.K (.ref a.cT) (Str.ofString "_ready_nodes") = some none
 f3 : findIn p.K (.ref a.cT) (Str.ofString "_npassedout") = some none
 f4 : findIn p.K (.ref a.cT) (Str.ofString "_nfinished") = some none
variable {p : PC} {n : Nat} {b : Mode} {env : Env} {X : Value → St → Prop} {st : St} {ad : Ad}
theorem initN_body {L' f : Addr} {q : Str} {cd : Value} {σ : Addr → Option AObj} {x : Addr} {node : Str} {Q : AF → St → Prop} (hS : KS p ad) (hx : σ x = some (.slots ad.cN []))
   (h : ∀ l st', σ l = none → l ≠ x → st'.σ = upd (upd σ l (.list [])) x (.slots ad.cN [some (.str node), some (.int 0), some (.ref l)]) → Q .next st') :
   SW p n .body (mkEnv (fnScope (methS (nthS P1 4) 1)) L' f q cd) (fnBody (methS (nthS P1 4) 1)) Q X ⟨fun y => [("self", AV.ref x), ("node", AV.str node)].reverse.lookup y, σ⟩ := by
 refine SW.cons (XW.assignAttr (EW.var rfl (EW.var rfl (sa_slot hx hS.clsN hS.sNode ?_))))
 refine SW.cons (XW.assignAttr (EW.int (EW.var rfl (sa_slot (upd_same ..) hS.clsN hS.sPred ?_))))
 refine SW.cons (XW.assignAttr (EW.listM (LW.nil ⟨fun l hl => ?_, by simp⟩)))
 have hlx : l ≠ x := fun z => by
   subst z
   have : upd (upd σ l (.slots ad.cN (sset [] 0 (.str node)))) l _ l = none := hl
   rw [upd_same] at this; exact xsn this
 have hl0 : σ l = none := by
   have : upd (upd σ x (.slots ad.cN (sset [] 0 (.str node)))) x _ l = none := hl
   rwa [upd_ne _ _ hlx, upd_ne _ _ hlx] at this
 refine EW.var rfl ?_
 refine sa_slot (vs := sset (sset [] 0 (.str node)) 1 (.int 0)) (C := ad.cN) ?_ hS.clsN hS.sSucc ?_
 · show upd (upd (upd σ x _) x _) l _ x = _
   rw [upd_ne _ _ hlx.symm, upd_same]
 refine SW.nil (h l _ hl0 hlx ?_)
 show upd (upd (upd (upd σ x _) x _) l _) x _ = _
 funext y
 by_cases h1 : y = x
 · subst h1; rw [upd_same, upd_same]; rfl
 · rw [upd_ne _ _ h1, upd_ne _ _ h1]
   by_cases h2 : y = l
   · subst h2; rw [upd_same, upd_same]
   · rw [upd_ne _ _ h2, upd_ne _ _ h2, upd_ne _ _ h1, upd_ne _ _ h1]
theorem aset_le {es : List (Str × AV)} {k : Str} {v : AV} {m : Nat} (h : es.length ≤ m) : (aset es k v).length ≤ m + 1 := by
 unfold aset; split <;> simp <;> lia
noncomputable def attrs (nd : Addr) (r : AV) (po nf : Int) : List (Str × AV) := [(Str.ofString "_node2info", .ref nd), (Str.ofString "_ready_nodes", r), (Str.ofString "_npassedout", .int po), (Str.ofString "_nfinished", .int nf)]
theorem initT_body {L' f : Addr} {q : Str} {cd : Value} {σ : Addr → Option AObj} {x dx : Addr} {Q : AF → St → Prop} (hS : KS p ad) (hx : σ x = some (.inst ad.cT dx)) (hdx : σ dx = some (.dict [] 0)) (hne : x ≠ dx)
   (h : ∀ nd ep st', σ nd = none → st'.σ = upd (upd σ nd (.dict [] 0)) dx (.dict (attrs nd .none 0 0) ep) → Q .next st') :
   SW p n .body (mkEnv (fnScope (methS (nthS P1 6) 0)) L' f q cd) (fnBody (methS (nthS P1 6) 0)) Q X ⟨fun y => [("self", AV.ref x), ("graph", AV.none)].reverse.lookup y, σ⟩ := by
 refine SW.cons (XW.assignAttr (EW.dict0 fun nd hnd => ?_))
 replace hnd : σ nd = none := hnd
 have hnx : x ≠ nd := fun z => by rw [← z, hx] at hnd; exact xsn hnd
 have hnd' : dx ≠ nd := fun z => by rw [← z, hdx] at hnd; exact xsn hnd
 refine EW.var rfl ?_
 refine sa_dict (C := ad.cT) (dx := dx) (es := []) (ep := 0) ?_ ?_ hS.clsT hS.dictT hS.t1 (fun ep1 => ?_) (by simp)
 · show upd σ nd _ x = _; rw [upd_ne _ _ hnx]; exact hx
 · show upd σ nd _ dx = _; rw [upd_ne _ _ hnd']; exact hdx
 refine SW.cons (XW.assignAttr (EW.noneC (EW.var rfl ?_)))
 refine sa_dict (C := ad.cT) (dx := dx) (ep := ep1) ?_ (upd_same ..) hS.clsT hS.dictT hS.t2 (fun ep2 => ?_) (by simp [aset])
 · show upd (upd σ nd _) dx _ x = _; rw [upd_ne _ _ hne, upd_ne _ _ hnx]; exact hx
 refine SW.cons (XW.assignAttr (EW.int (EW.var rfl ?_)))
 refine sa_dict (C := ad.cT) (dx := dx) (ep := ep2) ?_ (upd_same ..) hS.clsT hS.dictT hS.t3 (fun ep3 => ?_) (aset_le (m := 999) (aset_le (m := 998) (by decide)))
 · show upd (upd (upd σ nd _) dx _) dx _ x = _; rw [upd_ne _ _ hne, upd_ne _ _ hne, upd_ne _ _ hnx]; exact hx
 refine SW.cons (XW.assignAttr (EW.int (EW.var rfl ?_)))
 refine sa_dict (C := ad.cT) (dx := dx) (ep := ep3) ?_ (upd_same ..) hS.clsT hS.dictT hS.t4 (fun ep4 => ?_) (aset_le (m := 999) (aset_le (m := 998) (aset_le (m := 997) (by decide))))
 · show upd (upd (upd (upd σ nd _) dx _) dx _) dx _ x = _; rw [upd_ne _ _ hne, upd_ne _ _ hne, upd_ne _ _ hne, upd_ne _ _ hnx]; exact hx
 refine SW.cons (XW.iff (TW.cmp (EW.var rfl (EW.noneC (isnot_none_f (truthy_bool (ite_f (by decide) (SW.nil (SW.nil (h nd ep4 _ hnd ?_))))))))))
 show upd (upd (upd (upd (upd σ nd _) dx _) dx _) dx _) dx _ = _
 rw [upd_upd, upd_upd, upd_upd]
 rfl
end
variable {ad : Ad}
structure Info where
 name : Str
 addr : Addr
 succ : Addr
 np : Int
 ss : List Str
structure Srt where
 x : Addr
 dx : Addr
 nd : Addr
 infos : List Info
 ready : Option (Addr × List Str)
 po : Int
 nf : Int
noncomputable def readyA : Option (Addr × List Str) → AV
 | none => .none
 | some (a, _) => .ref a
noncomputable def infoD (l : List Info) : List (Str × AV) := l.map fun i => (i.name, .ref i.addr)
noncomputable def infoO (ad : Ad) (i : Info) : AObj := .slots ad.cN [some (.str i.name), some (.int i.np), some (.ref i.succ)]
structure SR (ad : Ad) (σ : Addr → Option AObj) (S : Srt) : Prop where
 hx : σ S.x = some (.inst ad.cT S.dx)
 hdx : ∃ ep, σ S.dx = some (.dict (attrs S.nd (readyA S.ready) S.po S.nf) ep)
 hnd : ∃ ep, σ S.nd = some (.dict (infoD S.infos) ep)
 hin : ∀ i ∈ S.infos, σ i.addr = some (infoO ad i) ∧ σ i.succ = some (.list (i.ss.map .str))
 hrd : ∀ a l, S.ready = some (a, l) → σ a = some (.list (l.map .str)) ∧ ∀ i ∈ S.infos, i.succ ≠ a
 names : (S.infos.map (·.name)).Nodup
 addrs : (S.infos.map (·.addr)).Nodup
 succs : (S.infos.map (·.succ)).Nodup
 ne : S.dx ≠ S.nd
theorem aget_info {l : List Info} {nm : Str} : (∀ i ∈ l, i.name = nm → (l.map (·.name)).Nodup → aget (infoD l) nm = some (.ref i.addr)) ∧ ((∀ i ∈ l, i.name ≠ nm) → aget (infoD l) nm = none) := by
 unfold aget infoD
 induction l with
 | nil => simp
 | cons j l ih =>
   constructor
   · intro i hi hn hnd
     simp only [List.map_cons, List.nodup_cons] at hnd
     simp only [List.map_cons, List.find?_cons]
     rcases List.mem_cons.mp hi with rfl | hi'
     · simp [hn]
     · have hj : j.name ≠ nm := fun z => hnd.1 (by rw [z, ← hn]; exact List.mem_map_of_mem hi')
       simp only [hj, decide_false]
       exact ih.1 i hi' hn hnd.2
   · intro h
     simp only [List.map_cons, List.find?_cons]
     have hj := h j (.head _)
     simp only [hj, decide_false]
     exact ih.2 fun i hi => h i (.tail _ hi)
theorem aset_new {l : List Info} {nm : Str} {v : AV} (h : ∀ i ∈ l, i.name ≠ nm) : aset (infoD l) nm v = infoD l ++ [(nm, v)] := by
 unfold aset
 rw [if_neg]
 simp only [infoD, List.any_map, List.any_eq_true, Function.comp, decide_eq_true_eq, not_exists, not_and]
 exact h
theorem bind2 {p : PC} {f : Addr} {fo : Obj} {fd : FuncData} {x y : AV} (F : FnOK p f (fnArgs (methS (nthS P1 4) 1)) (fnBody (methS (nthS P1 4) 1)) (fnScope (methS (nthS P1 4) 1)) .none fo fd) : BindA p fd [x, y] [("self", x), ("node", y)] := by
 refine BindA.plain rfl fun vs hl => ?_
 refine xEE ((by cases vs with | nil => cases hl | cons v r => exact ⟨v, r, rfl⟩) : ∃ v r, vs = v :: r) fun v vs zz1 => ?_; subst zz1
 refine xEE ((by cases vs with | nil => cases hl | cons v r => exact ⟨v, r, rfl⟩) : ∃ v r, vs = v :: r) fun u vs zz2 => ?_; subst zz2
 cases vs with
 | cons _ _ => simp at hl
 | nil =>
   exact b_any F.params F.dflt F.kwd fun _ => rfl
theorem makeN {σ : Addr → Option AObj} {ρ : String → Option AV} {node : Str} (hS : KS p ad) (hb : b ≠ .handler)
   (h : ∀ x l, σ x = none → σ l = none → l ≠ x → Q (.ref x) ⟨ρ, upd (upd σ l (.list [])) x (infoO ad ⟨node, x, l, 0, []⟩)⟩) : CC p (n + 2) b env (.ref ad.cN) [.str node] Q X ⟨ρ, σ⟩ := by
 refine makeS hS.makesN hS.findN hS.typeN fun x hx => (xEE hS.initN.ex fun fo fd F => ?_)
 refine callFnC F (bind2 F) hb (by intro y hy; simp only [List.mem_cons, List.not_mem_nil, or_false] at hy; rcases hy with rfl | rfl <;> rfl) (by decide +kernel) rfl rfl rfl fun L' q cd => ?_
 refine initN_body hS (upd_same ..) fun l st' hl hne hσ => ⟨rfl, ?_⟩
 have hl' : σ l = none := by
   have : upd σ x _ l = none := hl
   rwa [upd_ne _ _ hne] at this
 have := h x l hx hl' hne
 rw [hσ]
 have e : upd (upd (upd σ x (.slots ad.cN [])) l (.list [])) x (.slots ad.cN [some (.str node), some (.int 0), some (.ref l)]) = upd (upd σ l (.list [])) x (infoO ad ⟨node, x, l, 0, []⟩) := by
   funext y
   by_cases h1 : y = x
   · subst h1; rw [upd_same, upd_same]; rfl
   · rw [upd_ne _ _ h1, upd_ne _ _ h1]
     by_cases h2 : y = l
     · subst h2; rw [upd_same, upd_same]
     · rw [upd_ne _ _ h2, upd_ne _ _ h2, upd_ne _ _ h1]
 show Q (.ref x) ⟨ρ, upd (upd (upd σ x (.slots ad.cN [])) l (.list [])) x (.slots ad.cN [some (.str node), some (.int 0), some (.ref l)])⟩
 rw [e]; exact this
theorem ag_n2i {nd : Addr} {r : AV} {po nf : Int} : aget (attrs nd r po nf) (Str.ofString "_node2info") = some (.ref nd) := rfl
theorem get_body {L' f : Addr} {q : Str} {cd : Value} {σ : Addr → Option AObj} {S : Srt} {node : Str} {Q : AF → St → Prop} (hS : KS p ad) (hR : SR ad σ S) (hz : S.infos.length ≤ 1000)
   (hold : ∀ i ∈ S.infos, i.name = node → ∀ st', st'.σ = σ → Q (.ret (.ref i.addr)) st')
   (hnew : (∀ i ∈ S.infos, i.name ≠ node) → ∀ x l st', SR ad st'.σ { S with infos := S.infos ++ [⟨node, x, l, 0, []⟩] } → Q (.ret (.ref x)) st') :
   SW p (n + 2) .body (mkEnv (fnScope (methS (nthS P1 6) 1)) L' f q cd) (fnBody (methS (nthS P1 6) 1)) Q X ⟨fun y => [("self", AV.ref S.x), ("node", AV.str node)].reverse.lookup y, σ⟩ := by
 refine xE hR.hdx fun ep1 hdx => (xE hR.hnd fun ep2 hnd => (SW.cons (XW.iff (TW.cmp (EW.named (EW.callM (EW.attr (EW.var rfl (ga_dict hR.hx hdx hS.clsT hS.dictT hS.f1 ag_n2i (MW.builtin (recv_dict hnd) F.plainAttrs_dict F.slot_dict_get F.type_dict_get (AW.cons (LW.cons (EW.var rfl (LW.nil (call_dget hnd (AsW.name (EW.noneC ?_)))))))))))))))))
 by_cases hex : ∃ i ∈ S.infos, i.name = node
 · refine xEA hex fun i hi hin => ?_
   rw [aget_info.1 i hi hin hR.names]
   refine is_none_f (by intro z; exact xav z rfl) (truthy_bool (ite_f (by decide) (SW.nil ?_)))
   exact SW.cons (XW.ret (EW.var rfl (hold i hi hin _ rfl)))
 · have hno : ∀ i ∈ S.infos, i.name ≠ node := fun i hi z => hex ⟨i, hi, z⟩
   rw [aget_info.2 hno]
   refine is_none_t (truthy_bool (ite_t rfl (SW.cons (XW.assign2 (EW.callK hS.nsN hS.keepN (AW.cons (LW.cons (EW.var rfl (LW.nil (CC.cw (makeN hS (by decide) fun x l hx hl hlx => ?_)))))))))))
   replace hx : σ x = none := hx
   replace hl : σ l = none := hl
   have away : ∀ a o, σ a = some o → upd (upd σ l (.list [])) x (infoO ad ⟨node, x, l, 0, []⟩) a = some o := fun a o e => by
     have h1 : a ≠ x := fun z => by rw [z, hx] at e; exact xns e
     have h2 : a ≠ l := fun z => by rw [z, hl] at e; exact xns e
     rw [upd_ne _ _ h1, upd_ne _ _ h2]; exact e
   refine AsW.sub (EW.attr (EW.var rfl (ga_dict (away _ _ hR.hx) (away _ _ hdx) hS.clsT hS.dictT hS.f1 ag_n2i (EW.var rfl (si_dict (away _ _ hnd) (fun ep' => (AsW.name ?_)) (by unfold infoD; simp; lia))))))
   refine SW.nil ?_
   refine SW.cons (XW.ret (EW.var rfl (hnew hno x l _ ?_)))
   show SR ad (upd (upd (upd σ l (.list [])) x (infoO ad ⟨node, x, l, 0, []⟩)) S.nd (.dict (aset (infoD S.infos) node (.ref x)) ep')) _
   have away2 : ∀ a o, σ a = some o → a ≠ S.nd → upd (upd (upd σ l (.list [])) x (infoO ad ⟨node, x, l, 0, []⟩)) S.nd (.dict (aset (infoD S.infos) node (.ref x)) ep') a = some o := fun a o e h => by
     rw [upd_ne _ _ h]; exact away a o e
   have xnd : x ≠ S.nd := fun z => by rw [z, hnd] at hx; exact xsn hx
   have lnd : l ≠ S.nd := fun z => by rw [z, hnd] at hl; exact xsn hl
   refine ⟨away2 _ _ hR.hx fun z => ?_, ⟨ep1, away2 _ _ hdx hR.ne⟩, ⟨ep', ?_⟩, fun i hi => ?_, fun a l' e => ?_, ?_, ?_, ?_, hR.ne⟩
   · have := hR.hx; rw [z, hnd] at this; exact xao (Option.some.inj this) rfl
   · rw [upd_same, aset_new hno]
     show _ = some (AObj.dict (infoD (S.infos ++ [_])) ep')
     simp [infoD]
   · rcases List.mem_append.mp hi with hi | hi
     · refine xA (hR.hin i hi) fun e1 e2 => ?_
       refine ⟨away2 _ _ e1 fun z => ?_, away2 _ _ e2 fun z => ?_⟩
       · rw [z, hnd] at e1; exact xao (Option.some.inj e1) rfl
       · rw [z, hnd] at e2; exact xao (Option.some.inj e2) rfl
     · simp only [List.mem_singleton] at hi
       subst hi
       refine ⟨?_, ?_⟩
       · show upd (upd (upd σ l _) x _) S.nd _ x = _
         rw [upd_ne _ _ xnd, upd_same]
       · show upd (upd (upd σ l _) x _) S.nd _ l = _
         rw [upd_ne _ _ lnd, upd_ne _ _ hlx, upd_same]; rfl
   · refine xA (hR.hrd a l' e) fun e1 e2 => ?_
     refine ⟨away2 _ _ e1 fun z => ?_, fun i hi => ?_⟩
     · rw [z, hnd] at e1; exact xao (Option.some.inj e1) rfl
     · rcases List.mem_append.mp hi with hi | hi
       · exact e2 i hi
       · simp only [List.mem_singleton] at hi
         subst hi
         intro z
         have z' : l = a := z
         rw [z', e1] at hl; exact xsn hl
   · show ((S.infos ++ [_]).map Info.name).Nodup
     rw [List.map_append, List.nodup_append]
     refine ⟨hR.names, by simp, fun a ha c hc => ?_⟩
     refine xEA (List.mem_map.mp ha) fun i hi zz1 => ?_; subst zz1
     simp only [List.map_cons, List.map_nil, List.mem_singleton] at hc
     rw [hc]; exact hno i hi
   · show ((S.infos ++ [_]).map Info.addr).Nodup
     rw [List.map_append, List.nodup_append]
     refine ⟨hR.addrs, by simp, fun a ha c hc => ?_⟩
     refine xEA (List.mem_map.mp ha) fun i hi zz2 => ?_; subst zz2
     simp only [List.map_cons, List.map_nil, List.mem_singleton] at hc
     rw [hc]
     intro z
     have := (hR.hin i hi).1
     rw [z, hx] at this; exact xns this
   · show ((S.infos ++ [_]).map Info.succ).Nodup
     rw [List.map_append, List.nodup_append]
     refine ⟨hR.succs, by simp, fun a ha c hc => ?_⟩
     refine xEA (List.mem_map.mp ha) fun i hi zz3 => ?_; subst zz3
     simp only [List.map_cons, List.map_nil, List.mem_singleton] at hc
     rw [hc]
     intro z
     have := (hR.hin i hi).2
     rw [z, hl] at this; exact xns this
structure Nod where
 name : Str
 np : Int
 ss : List Str
noncomputable def Info.nod (i : Info) : Nod := ⟨i.name, i.np, i.ss⟩
noncomputable def gTouch (g : List Nod) (nm : Str) : List Nod := if g.any (fun x => x.name == nm) then g else g ++ [⟨nm, 0, []⟩]
noncomputable def gMore (g : List Nod) (nm : Str) (k : Int) : List Nod := g.map fun x => if x.name = nm then { x with np := x.np + k } else x
noncomputable def gSucc (g : List Nod) (nm s : Str) : List Nod := g.map fun x => if x.name = nm then { x with ss := x.ss ++ [s] } else x
noncomputable def gAdd (g : List Nod) (nm : Str) (preds : List Str) : List Nod := preds.foldl (fun g q => gSucc (gTouch g q) q nm) (gMore (gTouch g nm) nm preds.length)
noncomputable def setNp (l : List Info) (nm : Str) (k : Int) : List Info := l.map fun j => if j.name = nm then { j with np := k } else j
noncomputable def setSs (l : List Info) (nm : Str) (s : List Str) : List Info := l.map fun j => if j.name = nm then { j with ss := s } else j
theorem setNp_name (l : List Info) (nm : Str) (k : Int) : (setNp l nm k).map Info.name = l.map Info.name ∧ (setNp l nm k).map Info.addr = l.map Info.addr ∧ (setNp l nm k).map Info.succ = l.map Info.succ := by
 unfold setNp
 simp only [List.map_map]
 refine ⟨?_, ?_, ?_⟩ <;> (congr 1; funext j; simp only [Function.comp]; split <;> rfl)
theorem setSs_name (l : List Info) (nm : Str) (k : List Str) : (setSs l nm k).map Info.name = l.map Info.name ∧ (setSs l nm k).map Info.addr = l.map Info.addr ∧ (setSs l nm k).map Info.succ = l.map Info.succ := by
 unfold setSs
 simp only [List.map_map]
 refine ⟨?_, ?_, ?_⟩ <;> (congr 1; funext j; simp only [Function.comp]; split <;> rfl)
theorem infoD_eq {l l' : List Info} (h1 : l'.map Info.name = l.map Info.name) (h2 : l'.map Info.addr = l.map Info.addr) : infoD l' = infoD l := by
 unfold infoD
 induction l generalizing l' with
 | nil => cases l' with | nil => rfl | cons _ _ => simp at h1
 | cons i l ih =>
   cases l' with
   | nil => simp at h1
   | cons j l' =>
     simp only [List.map_cons, List.cons.injEq] at h1 h2 ⊢
     exact ⟨by rw [h1.1, h2.1], ih h1.2 h2.2⟩
theorem inj_of_nodup {α β : Type} {f : α → β} {l : List α} (h : (l.map f).Nodup) {a b : α} (ha : a ∈ l) (hb : b ∈ l) (e : f a = f b) : a = b := by
 induction l with
 | nil => cases ha
 | cons c l ih =>
   simp only [List.map_cons, List.nodup_cons] at h
   rcases List.mem_cons.mp ha with rfl | ha' <;> rcases List.mem_cons.mp hb with rfl | hb'
   · rfl
   · exact absurd (List.mem_map_of_mem hb') (e ▸ h.1)
   · exact absurd (List.mem_map_of_mem ha') (e ▸ h.1)
   · exact ih h.2 ha' hb'
theorem SR.np {σ : Addr → Option AObj} {S : Srt} (hR : SR ad σ S) {i : Info} (hi : i ∈ S.infos) (k : Int) : SR ad (upd σ i.addr (infoO ad { i with np := k })) { S with infos := setNp S.infos i.name k } := by
 have hA := (hR.hin i hi).1
 have no : ∀ a o, σ a = some o → (∀ vs, o ≠ .slots ad.cN vs) → upd σ i.addr (infoO ad { i with np := k }) a = some o := fun a o e h => by
   rw [upd_ne _ _ fun z => ?_]
   · exact e
   · rw [z, hA] at e; exact h _ (Option.some.inj e).symm
 refine xAA (setNp_name S.infos i.name k) fun n1 n2 n3 => ?_
 refine ⟨no _ _ hR.hx (by intro _ z; exact xao z rfl), ?_, ?_, fun j hj => ?_, fun a l e => ?_, by show (_ : List Str).Nodup; rw [show ({ S with infos := setNp S.infos i.name k } : Srt).infos.map (·.name) = _ from n1]; exact hR.names, by rw [show ({ S with infos := setNp S.infos i.name k } : Srt).infos.map (·.addr) = _ from n2]; exact hR.addrs, by rw [show ({ S with infos := setNp S.infos i.name k } : Srt).infos.map (·.succ) = _ from n3]; exact hR.succs, hR.ne⟩
 · refine xE hR.hdx fun ep h => ?_; exact ⟨ep, no _ _ h (by intro _ z; exact xao z rfl)⟩
 · refine xE hR.hnd fun ep h => ?_; exact ⟨ep, by rw [show infoD ({ S with infos := setNp S.infos i.name k } : Srt).infos = _ from infoD_eq n1 n2]; exact no _ _ h (by intro _ z; exact xao z rfl)⟩
 · refine xEA (List.mem_map.mp (show j ∈ setNp S.infos i.name k from hj)) fun j0 hj0 zz1 => ?_; subst zz1
   refine xA (hR.hin j0 hj0) fun e1 e2 => ?_
   by_cases hn : j0.name = i.name
   · have : j0 = i := inj_of_nodup hR.names hj0 hi hn
     subst this
     rw [if_pos rfl]
     exact ⟨upd_same .., no _ _ e2 (by intro _ z; exact xao z rfl)⟩
   · rw [if_neg hn]
     refine ⟨?_, no _ _ e2 (by intro _ z; exact xao z rfl)⟩
     rw [upd_ne _ _ fun z => hn (by rw [inj_of_nodup hR.addrs hj0 hi z])]
     exact e1
 · refine xA (hR.hrd a l e) fun e1 e2 => ⟨no _ _ e1 (by intro _ z; exact xao z rfl), fun j hj => ?_⟩
   refine xEA (List.mem_map.mp (show j ∈ setNp S.infos i.name k from hj)) fun j0 hj0 zz2 => ?_; subst zz2
   have := e2 j0 hj0
   split <;> exact this
theorem SR.ss {σ : Addr → Option AObj} {S : Srt} (hR : SR ad σ S) {i : Info} (hi : i ∈ S.infos) (k : List Str) : SR ad (upd σ i.succ (.list (k.map .str))) { S with infos := setSs S.infos i.name k } := by
 have hA := (hR.hin i hi).2
 have no : ∀ a o, σ a = some o → (∀ vs, o ≠ .list vs) → upd σ i.succ (.list (k.map .str)) a = some o := fun a o e h => by
   rw [upd_ne _ _ fun z => ?_]
   · exact e
   · rw [z, hA] at e; exact h _ (Option.some.inj e).symm
 refine xAA (setSs_name S.infos i.name k) fun n1 n2 n3 => ?_
 refine ⟨no _ _ hR.hx (by intro _ z; exact xao z rfl), ?_, ?_, fun j hj => ?_, fun a l e => ?_, by rw [show ({ S with infos := setSs S.infos i.name k } : Srt).infos.map (·.name) = _ from n1]; exact hR.names, by rw [show ({ S with infos := setSs S.infos i.name k } : Srt).infos.map (·.addr) = _ from n2]; exact hR.addrs, by rw [show ({ S with infos := setSs S.infos i.name k } : Srt).infos.map (·.succ) = _ from n3]; exact hR.succs, hR.ne⟩
 · refine xE hR.hdx fun ep h => ?_; exact ⟨ep, no _ _ h (by intro _ z; exact xao z rfl)⟩
 · refine xE hR.hnd fun ep h => ?_; exact ⟨ep, by rw [show infoD ({ S with infos := setSs S.infos i.name k } : Srt).infos = _ from infoD_eq n1 n2]; exact no _ _ h (by intro _ z; exact xao z rfl)⟩
 · refine xEA (List.mem_map.mp (show j ∈ setSs S.infos i.name k from hj)) fun j0 hj0 zz3 => ?_; subst zz3
   refine xA (hR.hin j0 hj0) fun e1 e2 => ?_
   by_cases hn : j0.name = i.name
   · have : j0 = i := inj_of_nodup hR.names hj0 hi hn
     subst this
     rw [if_pos rfl]
     exact ⟨no _ _ e1 (by intro _ z; exact xao z rfl), upd_same ..⟩
   · rw [if_neg hn]
     refine ⟨no _ _ e1 (by intro _ z; exact xao z rfl), ?_⟩
     rw [upd_ne _ _ fun z => hn (by rw [inj_of_nodup hR.succs hj0 hi z])]
     exact e2
 · refine xA (hR.hrd a l e) fun e1 e2 => ?_
   refine ⟨?_, fun j hj => ?_⟩
   · rw [upd_ne _ _ fun z => e2 i hi z.symm]; exact e1
   · refine xEA (List.mem_map.mp (show j ∈ setSs S.infos i.name k from hj)) fun j0 hj0 zz4 => ?_; subst zz4
     have := e2 j0 hj0
     split <;> exact this
theorem bindGet {f : Addr} {fo : Obj} {fd : FuncData} {x y : AV} (F : FnOK p f (fnArgs (methS (nthS P1 6) 1)) (fnBody (methS (nthS P1 6) 1)) (fnScope (methS (nthS P1 6) 1)) .none fo fd) : BindA p fd [x, y] [("self", x), ("node", y)] := by
 refine BindA.plain rfl fun vs hl => ?_
 refine xEE ((by cases vs with | nil => cases hl | cons v r => exact ⟨v, r, rfl⟩) : ∃ v r, vs = v :: r) fun v vs zz1 => ?_; subst zz1
 refine xEE ((by cases vs with | nil => cases hl | cons v r => exact ⟨v, r, rfl⟩) : ∃ v r, vs = v :: r) fun u vs zz2 => ?_; subst zz2
 cases vs with
 | cons _ _ => simp at hl
 | nil =>
   exact b_any F.params F.dflt F.kwd fun _ => rfl
theorem callGet {σ : Addr → Option AObj} {ρ : String → Option AV} {S : Srt} {node : Str} (hS : KS p ad) (hb : b ≠ .handler) (hR : SR ad σ S) (hz : S.infos.length ≤ 1000)
   (hold : ∀ i ∈ S.infos, i.name = node → Q (.ref i.addr) ⟨ρ, σ⟩)
   (hnew : (∀ i ∈ S.infos, i.name ≠ node) → ∀ x l σ', SR ad σ' { S with infos := S.infos ++ [⟨node, x, l, 0, []⟩] } → Q (.ref x) ⟨ρ, σ'⟩) : CC p (n + 3) b env (.ref ad.get) [.ref S.x, .str node] Q X ⟨ρ, σ⟩ := by
 refine xEE hS.fGet.ex fun fo fd F => ?_
 refine callFnC F (bindGet F) hb (by intro y hy; simp only [List.mem_cons, List.not_mem_nil, or_false] at hy; rcases hy with rfl | rfl <;> rfl) (by decide +kernel) rfl rfl rfl fun L' q cd => ?_
 refine get_body hS hR hz (fun i hi hn st' hσ => ?_) fun hno x l st' hR' => hnew hno x l _ hR'
 rw [hσ]; exact hold i hi hn
theorem gTouch_old {l : List Info} {nm : Str} {i : Info} (hi : i ∈ l) (hn : i.name = nm) : gTouch (l.map Info.nod) nm = l.map Info.nod := by
 unfold gTouch
 rw [if_pos]
 simp only [List.any_map, List.any_eq_true, Function.comp, beq_iff_eq]
 exact ⟨i, hi, hn⟩
theorem gTouch_new {l : List Info} {nm : Str} {x s : Addr} (h : ∀ i ∈ l, i.name ≠ nm) : gTouch (l.map Info.nod) nm = (l ++ [(⟨nm, x, s, 0, []⟩ : Info)]).map Info.nod := by
 unfold gTouch
 rw [if_neg]
 · simp [Info.nod]
 · simp only [List.any_map, List.any_eq_true, Function.comp, beq_iff_eq, not_exists, not_and]
   exact h
theorem gMore_set {l : List Info} {i : Info} (hi : i ∈ l) (hn : (l.map Info.name).Nodup) (k : Int) : gMore (l.map Info.nod) i.name k = (setNp l i.name (i.np + k)).map Info.nod := by
 unfold gMore setNp
 simp only [List.map_map]
 refine List.map_congr_left fun j hj => ?_
 simp only [Function.comp]
 by_cases h : j.name = i.name
 · have : j = i := inj_of_nodup hn hj hi h
   subst this
   simp [Info.nod]
 · rw [if_neg h]
   show (if j.name = i.name then _ else _) = _
   rw [if_neg h]
theorem gSucc_set {l : List Info} {i : Info} (hi : i ∈ l) (hn : (l.map Info.name).Nodup) (s : Str) : gSucc (l.map Info.nod) i.name s = (setSs l i.name (i.ss ++ [s])).map Info.nod := by
 unfold gSucc setSs
 simp only [List.map_map]
 refine List.map_congr_left fun j hj => ?_
 simp only [Function.comp]
 by_cases h : j.name = i.name
 · have : j = i := inj_of_nodup hn hj hi h
   subst this
   simp [Info.nod]
 · rw [if_neg h]
   show (if j.name = i.name then _ else _) = _
   rw [if_neg h]
theorem call_lenT {l : List AV} (h : Q (.int l.length) st) (hz : l.length ≤ 16777216) : CW p n b env (.builtin "len") [.tup l] Q X st :=
 GF.mk fun zw zw zw zw zw zw zw S hv => by
   refine xEA hv.one fun v zz1 hv1 => ?_; subst zz1
   apply VR.onTup hv1; intro za zvs zn e r
   refine PyProof.Rows.len_tuple (tup_is (S.sub _ _ e)) (by rw [List.size_toArray, r.length]; lia) (NP.mk (S.of_eq rfl rfl rfl) (.refl _) ?_ h)
   rw [List.size_toArray, r.length]; exact .int ..
structure Like (S S' : Srt) : Prop where
 x : S'.x = S.x
 dx : S'.dx = S.dx
 nd : S'.nd = S.nd
 ready : S'.ready = S.ready
 po : S'.po = S.po
 nf : S'.nf = S.nf
theorem Like.refl (S : Srt) : Like S S := ⟨rfl, rfl, rfl, rfl, rfl, rfl⟩
theorem Like.trans {S S' S'' : Srt} (h : Like S S') (g : Like S' S'') : Like S S'' := ⟨g.x.trans h.x, g.dx.trans h.dx, g.nd.trans h.nd, g.ready.trans h.ready, g.po.trans h.po, g.nf.trans h.nf⟩
theorem callGetT {σ : Addr → Option AObj} {ρ : String → Option AV} {S : Srt} {node : Str} (hS : KS p ad) (hb : b ≠ .handler) (hR : SR ad σ S) (hz : S.infos.length ≤ 1000)
   (h : ∀ S' i σ', SR ad σ' S' → Like S S' → i ∈ S'.infos → i.name = node → S'.infos.map Info.nod = gTouch (S.infos.map Info.nod) node → Q (.ref i.addr) ⟨ρ, σ'⟩) : CC p (n + 3) b env (.ref ad.get) [.ref S.x, .str node] Q X ⟨ρ, σ⟩ := by
 exact callGet hS hb hR hz (fun i hi hn => h S i σ hR (.refl S) hi hn (gTouch_old hi hn).symm) fun hno x l σ' hR' => (h _ ⟨node, x, l, 0, []⟩ σ' hR' ⟨rfl, rfl, rfl, rfl, rfl, rfl⟩ (List.mem_append_right _ (.head _)) rfl (gTouch_new hno).symm)
theorem ag_ready {nd : Addr} {r : AV} {po nf : Int} : aget (attrs nd r po nf) (Str.ofString "_ready_nodes") = some r := rfl
theorem ag_none {nd : Addr} {r : AV} {po nf : Int} : aget (attrs nd r po nf) (Str.ofString "_get_nodeinfo") = none := rfl
theorem gTouch_len (g : List Nod) (nm : Str) : (gTouch g nm).length ≤ g.length + 1 := by
 unfold gTouch; split <;> simp
theorem gMore_len (g : List Nod) (nm : Str) (k : Int) : (gMore g nm k).length = g.length := by simp [gMore]
theorem gSucc_len (g : List Nod) (nm s : Str) : (gSucc g nm s).length = g.length := by simp [gSucc]
noncomputable def SsLe (g : List Nod) (B : Nat) : Prop := ∀ x ∈ g, x.ss.length ≤ B
theorem SsLe.touch {g : List Nod} {B : Nat} (h : SsLe g B) (nm : Str) : SsLe (gTouch g nm) B := by
 unfold gTouch
 split
 · exact h
 · intro x hx
   rcases List.mem_append.mp hx with hx | hx
   · exact h x hx
   · simp only [List.mem_singleton] at hx; subst hx; exact Nat.zero_le _
theorem SsLe.more {g : List Nod} {B : Nat} (h : SsLe g B) (nm : Str) (k : Int) : SsLe (gMore g nm k) B := by
 intro x hx
 refine xEA (List.mem_map.mp hx) fun y hy zz1 => ?_; subst zz1
 have := h y hy
 split <;> exact this
theorem SsLe.succ {g : List Nod} {B : Nat} (h : SsLe g B) (nm s : Str) : SsLe (gSucc g nm s) (B + 1) := by
 intro x hx
 refine xEA (List.mem_map.mp hx) fun y hy zz2 => ?_; subst zz2
 have := h y hy
 split
 · simpa using this
 · lia
theorem SsLe.info {l : List Info} {B : Nat} (h : SsLe (l.map Info.nod) B) {i : Info} (hi : i ∈ l) : i.ss.length ≤ B := h i.nod (List.mem_map_of_mem hi)
theorem add_body {L' f : Addr} {q : Str} {cd : Value} {σ : Addr → Option AObj} {S : Srt} {node : Str} {preds : List Str} {B : Nat} {Q : AF → St → Prop} (hS : KS p ad) (hB : KB p) (hR : SR ad σ S) (hr : S.ready = none)
   (hz : S.infos.length + preds.length ≤ 900) (hB0 : SsLe (S.infos.map Info.nod) B) (hBz : B + preds.length ≤ 900)
   (h : ∀ S' st', SR ad st'.σ S' → Like S S' → S'.infos.map Info.nod = gAdd (S.infos.map Info.nod) node preds → Q .next st') :
   SW p (n + 3) .body (mkEnv (fnScope (methS (nthS P1 6) 2)) L' f q cd) (fnBody (methS (nthS P1 6) 2)) Q X ⟨fun y => [("self", AV.ref S.x), ("node", AV.str node), ("predecessors", AV.tup (preds.map .str))].reverse.lookup y, σ⟩ := by
 refine xE hR.hdx fun ep1 hdx => ?_
 repeat (first | refine SW.cons ?_ | refine XW.assign ?_ | refine XW.iff ?_ | refine XW.ret ?_ | refine XW.expr ?_ | refine XW.assignAttr ?_ | refine XW.augAttr ?_ | refine TW.cmp ?_ | refine TW.not ?_ | refine EW.var (by first | exact rfl | assumption) ?_ | refine EW.int ?_ | refine EW.str ?_ | refine EW.bool ?_ | refine EW.noneC ?_ | refine EW.attr ?_ | refine EW.callM ?_ | refine EW.binop ?_ | refine EW.tup ?_ | refine EW.list ?_ | refine EW.cut ?_ | refine EW.sub ?_ | refine LW.nil ?_ | refine LW.cons ?_ | refine AW.cons ?_ | refine AW.nil ?_ | refine truthy_bool ?_ | refine AsW.name ?_ | dsimp only)
 refine ga_dict hR.hx hdx hS.clsT hS.dictT hS.f2 ag_ready ?_
 rw [hr]
 refine EW.noneC (isnot_none_f (truthy_bool (ite_f (by decide) (SW.nil ?_))))
 repeat (first | refine SW.cons ?_ | refine XW.assign ?_ | refine XW.iff ?_ | refine XW.ret ?_ | refine XW.expr ?_ | refine XW.assignAttr ?_ | refine XW.augAttr ?_ | refine TW.cmp ?_ | refine TW.not ?_ | refine EW.var (by first | exact rfl | assumption) ?_ | refine EW.int ?_ | refine EW.str ?_ | refine EW.bool ?_ | refine EW.noneC ?_ | refine EW.attr ?_ | refine EW.callM ?_ | refine EW.binop ?_ | refine EW.tup ?_ | refine EW.list ?_ | refine EW.cut ?_ | refine EW.sub ?_ | refine LW.nil ?_ | refine LW.cons ?_ | refine AW.cons ?_ | refine AW.nil ?_ | refine truthy_bool ?_ | refine AsW.name ?_ | dsimp only)
 refine MW.own hR.hx hdx hS.clsT hS.mGet ag_none ?_
 repeat (first | refine SW.cons ?_ | refine XW.assign ?_ | refine XW.iff ?_ | refine XW.ret ?_ | refine XW.expr ?_ | refine XW.assignAttr ?_ | refine XW.augAttr ?_ | refine TW.cmp ?_ | refine TW.not ?_ | refine EW.var (by first | exact rfl | assumption) ?_ | refine EW.int ?_ | refine EW.str ?_ | refine EW.bool ?_ | refine EW.noneC ?_ | refine EW.attr ?_ | refine EW.callM ?_ | refine EW.binop ?_ | refine EW.tup ?_ | refine EW.list ?_ | refine EW.cut ?_ | refine EW.sub ?_ | refine LW.nil ?_ | refine LW.cons ?_ | refine AW.cons ?_ | refine AW.nil ?_ | refine truthy_bool ?_ | refine AsW.name ?_ | dsimp only)
 refine CC.cw (callGetT hS (by decide) hR (by lia) fun S1 i1 σ1 hR1 hl1 hi1 hn1 hg1 => ?_)
 repeat (first | refine SW.cons ?_ | refine XW.assign ?_ | refine XW.iff ?_ | refine XW.ret ?_ | refine XW.expr ?_ | refine XW.assignAttr ?_ | refine XW.augAttr ?_ | refine TW.cmp ?_ | refine TW.not ?_ | refine EW.var (by first | exact rfl | assumption) ?_ | refine EW.int ?_ | refine EW.str ?_ | refine EW.bool ?_ | refine EW.noneC ?_ | refine EW.attr ?_ | refine EW.callM ?_ | refine EW.binop ?_ | refine EW.tup ?_ | refine EW.list ?_ | refine EW.cut ?_ | refine EW.sub ?_ | refine LW.nil ?_ | refine LW.cons ?_ | refine AW.cons ?_ | refine AW.nil ?_ | refine truthy_bool ?_ | refine AsW.name ?_ | dsimp only)
 refine xA (hR1.hin i1 hi1) fun hia his => (ga_slot hia hS.clsN hS.sPred rfl (EW.callB hB.len bb_len ?_))
 repeat (first | refine SW.cons ?_ | refine XW.assign ?_ | refine XW.iff ?_ | refine XW.ret ?_ | refine XW.expr ?_ | refine XW.assignAttr ?_ | refine XW.augAttr ?_ | refine TW.cmp ?_ | refine TW.not ?_ | refine EW.var (by first | exact rfl | assumption) ?_ | refine EW.int ?_ | refine EW.str ?_ | refine EW.bool ?_ | refine EW.noneC ?_ | refine EW.attr ?_ | refine EW.callM ?_ | refine EW.binop ?_ | refine EW.tup ?_ | refine EW.list ?_ | refine EW.cut ?_ | refine EW.sub ?_ | refine LW.nil ?_ | refine LW.cons ?_ | refine AW.cons ?_ | refine AW.nil ?_ | refine truthy_bool ?_ | refine AsW.name ?_ | dsimp only)
 refine call_lenT ?_ (by simp; lia)
 rw [List.length_map]
 refine iadd_int (sa_slot hia hS.clsN hS.sPred ?_)
 have hR2 := hR1.np hi1 (i1.np + preds.length)
 repeat (first | refine SW.cons ?_ | refine XW.assign ?_ | refine XW.iff ?_ | refine XW.ret ?_ | refine XW.expr ?_ | refine XW.assignAttr ?_ | refine XW.augAttr ?_ | refine TW.cmp ?_ | refine TW.not ?_ | refine EW.var (by first | exact rfl | assumption) ?_ | refine EW.int ?_ | refine EW.str ?_ | refine EW.bool ?_ | refine EW.noneC ?_ | refine EW.attr ?_ | refine EW.callM ?_ | refine EW.binop ?_ | refine EW.tup ?_ | refine EW.list ?_ | refine EW.cut ?_ | refine EW.sub ?_ | refine LW.nil ?_ | refine LW.cons ?_ | refine AW.cons ?_ | refine AW.nil ?_ | refine truthy_bool ?_ | refine AsW.name ?_ | dsimp only)
 have hg2 : (setNp S1.infos i1.name (i1.np + preds.length)).map Info.nod = gMore (gTouch (S.infos.map Info.nod) node) node preds.length := by
   rw [← gMore_set hi1 hR1.names, hg1, hn1]
 have hSB : SsLe (gMore (gTouch (S.infos.map Info.nod) node) node preds.length) B := (hB0.touch _).more _ _
 have hlen2 : (gMore (gTouch (S.infos.map Info.nod) node) node preds.length).length ≤ S.infos.length + 1 := by
   rw [gMore_len]
   have := gTouch_len (S.infos.map Info.nod) node
   simpa using this
 refine XW.for rfl (ItE.of (EW.var rfl ⟨_, _, iter_tup, ?_⟩))
 refine ForW.run (fun r st => ∃ dn rest S', r = rest.map .str ∧ preds = dn ++ rest ∧ st.ρ "self" = some (.ref S.x) ∧ st.ρ "node" = some (.str node) ∧ SR ad st.σ S' ∧ Like S S' ∧ S'.infos.map Info.nod = dn.foldl (fun g q => gSucc (gTouch g q) q node) (gMore (gTouch (S.infos.map Info.nod) node) node preds.length)
     ∧ SsLe (S'.infos.map Info.nod) (B + dn.length) ∧ S'.infos.length ≤ S.infos.length + 1 + dn.length)
   (fun zw zw zw => trivial) ?_ ?_ _ _ ⟨[], preds, _, rfl, rfl, rfl, rfl, hR2, hl1.trans ⟨rfl, rfl, rfl, rfl, rfl, rfl⟩, hg2, by rw [hg2]; exact hSB, ?_⟩
 · intro st zz3; refine xEEEAAAAAAAA zz3 fun dn rest S' hr' hp h1 h2 h3 h4 h5 h6 h7 => ?_
   cases rest with
   | cons _ _ => exact xnc hr'
   | nil =>
     rw [List.append_nil] at hp
     subst hp
     exact SW.nil (SW.nil (h S' st h3 h4 h5))
 · intro v r st zz4; refine xEEEAAAAAAAA zz4 fun dn rest S' hr' hp h1 h2 h3 h4 h5 h6 h7 => ?_
   cases rest with
   | nil => exact xcn hr'
   | cons pr rest =>
     cases hr'
     have hpl : preds.length = dn.length + 1 + rest.length := by rw [hp]; simp; lia
     refine xE h3.hdx fun ep3 hdx3 => ?_
     repeat (first | refine SW.cons ?_ | refine XW.assign ?_ | refine XW.iff ?_ | refine XW.ret ?_ | refine XW.expr ?_ | refine XW.assignAttr ?_ | refine XW.augAttr ?_ | refine TW.cmp ?_ | refine TW.not ?_ | refine EW.var (by first | exact rfl | assumption) ?_ | refine EW.int ?_ | refine EW.str ?_ | refine EW.bool ?_ | refine EW.noneC ?_ | refine EW.attr ?_ | refine EW.callM ?_ | refine EW.binop ?_ | refine EW.tup ?_ | refine EW.list ?_ | refine EW.cut ?_ | refine EW.sub ?_ | refine LW.nil ?_ | refine LW.cons ?_ | refine AW.cons ?_ | refine AW.nil ?_ | refine truthy_bool ?_ | refine AsW.name ?_ | dsimp only)
     rw [← h4.x]
     refine MW.own h3.hx hdx3 hS.clsT hS.mGet ag_none ?_
     repeat (first | refine SW.cons ?_ | refine XW.assign ?_ | refine XW.iff ?_ | refine XW.ret ?_ | refine XW.expr ?_ | refine XW.assignAttr ?_ | refine XW.augAttr ?_ | refine TW.cmp ?_ | refine TW.not ?_ | refine EW.var (by first | exact rfl | assumption) ?_ | refine EW.int ?_ | refine EW.str ?_ | refine EW.bool ?_ | refine EW.noneC ?_ | refine EW.attr ?_ | refine EW.callM ?_ | refine EW.binop ?_ | refine EW.tup ?_ | refine EW.list ?_ | refine EW.cut ?_ | refine EW.sub ?_ | refine LW.nil ?_ | refine LW.cons ?_ | refine AW.cons ?_ | refine AW.nil ?_ | refine truthy_bool ?_ | refine AsW.name ?_ | dsimp only)
     refine CC.cw (callGetT hS (by decide) h3 (by lia) fun S4 i4 σ4 hR4 hl4 hi4 hn4 hg4 => (SW.cons (xA (hR4.hin i4 hi4) fun hia4 his4 => (XW.append (EW.attr (EW.var rfl (ga_slot hia4 hS.clsN hS.sSucc rfl ⟨i4.succ, rfl, (EW.var h2 ?_), _, his4⟩)))))))
     have hB4 : SsLe (S4.infos.map Info.nod) (B + dn.length) := by rw [hg4]; exact h6.touch _
     refine ⟨_, his4, ?_, ?_⟩
     · have := hB4.info hi4
       simp; lia
     refine SW.nil ?_
     have hR5 := hR4.ss hi4 (i4.ss ++ [node])
     have hg5 : (setSs S4.infos i4.name (i4.ss ++ [node])).map Info.nod = gSucc (gTouch (S'.infos.map Info.nod) pr) pr node := by
       rw [← gSucc_set hi4 hR4.names, hg4, hn4]
     refine ⟨dn ++ [pr], rest, { S4 with infos := setSs S4.infos i4.name (i4.ss ++ [node]) }, rfl, by rw [hp]; simp, by rw [h4.x]; exact h1, h2, ?_, (h4.trans hl4).trans ⟨rfl, rfl, rfl, rfl, rfl, rfl⟩, ?_, ?_, ?_⟩
     · rw [List.map_append] at hR5; exact hR5
     · show (setSs S4.infos i4.name (i4.ss ++ [node])).map Info.nod = _
       rw [hg5, h5, List.foldl_append]; rfl
     · show SsLe ((setSs S4.infos i4.name (i4.ss ++ [node])).map Info.nod) _
       rw [hg5, List.length_append]
       exact (h6.touch _).succ _ _
     · have e := congrArg List.length hg5
       rw [gSucc_len, List.length_map] at e
       have := gTouch_len (S'.infos.map Info.nod) pr
       simp only [List.length_map] at this
       show (setSs S4.infos i4.name (i4.ss ++ [node])).length ≤ _
       simp; lia
 · have e := congrArg List.length hg2
   simp only [List.length_map] at e
   show (setNp S1.infos i1.name (i1.np + preds.length)).length ≤ _
   simp; lia
structure KS2 (p : PC) (a : Ad) : Prop extends KS p a where
 mAdd : KMeth p a.cT (Str.ofString "add") a.add
 fAdd : FnK p a.add (methS (nthS P1 6) 2) .none
 mPrep : KMeth p a.cT (Str.ofString "prepare") a.prep
 fPrep : FnK p a.prep (methS (nthS P1 6) 3) .none
 mReady : KMeth p a.cT (Str.ofString "get_ready") a.ready
 fReady : FnK p a.ready (methS (nthS P1 6) 4) .none
 mAct : KMeth p a.cT (Str.ofString "is_active") a.act
 fAct : FnK p a.act (methS (nthS P1 6) 5) .none
 mDone : KMeth p a.cT (Str.ofString "done") a.done
 fDone : FnK p a.done (methS (nthS P1 6) 7) .none
 mFind : KMeth p a.cT (Str.ofString "_find_cycle") a.find
 fFind : FnK p a.find (methS (nthS P1 6) 8) .none
 nsT : nsIn p.K mainGlobals (Str.ofString "TopologicalSorter") = some (some (.ref a.cT))
 keepT : keepIn p.K (.ref a.cT) = true
 makesT : makesIn p.K a.cT = true
 findT : findIn p.K (.ref a.cT) "__init__" = some (some (.ref a.iT))
 typeT : typeIn p.K (.ref a.iT) = some (.type "function")
 initT : ∃ t k, FnK p a.iT (methS (nthS P1 6) 0) (.ref t) ∧ p.K.lookup t = some (tupObj [.none] k)
 out : ∃ t, nsIn p.K mainGlobals (Str.ofString "_NODE_OUT") = some (some (.int (-1) t))
 dn : ∃ t, nsIn p.K mainGlobals (Str.ofString "_NODE_DONE") = some (some (.int (-2) t))
 nsC : nsIn p.K mainGlobals (Str.ofString "CycleError") = some (some (.ref a.cyc))
theorem bindAdd {f : Addr} {fo : Obj} {fd : FuncData} {x y : AV} {rest : List AV} (hz : rest.length ≤ 1000) (F : FnOK p f (fnArgs (methS (nthS P1 6) 2)) (fnBody (methS (nthS P1 6) 2)) (fnScope (methS (nthS P1 6) 2)) .none fo fd) : BindA p fd (x :: y :: rest) [("self", x), ("node", y), ("predecessors", .tup rest)] := by
 refine BindA.var (as := [x, y]) (bs := [("self", x), ("node", y)]) rfl (by lia) fun vs rs hl => ?_
 refine xEE ((by cases vs with | nil => cases hl | cons v r => exact ⟨v, r, rfl⟩) : ∃ v r, vs = v :: r) fun v vs zz1 => ?_; subst zz1
 refine xEE ((by cases vs with | nil => cases hl | cons v r => exact ⟨v, r, rfl⟩) : ∃ v r, vs = v :: r) fun u vs zz2 => ?_; subst zz2
 cases vs with
 | cons _ _ => simp at hl
 | nil =>
   exact b_any F.params F.dflt F.kwd fun _ => by cases rs <;> rfl
theorem bindInit {f t : Addr} {k : Nat} {fo : Obj} {fd : FuncData} {x : AV} (ht : p.K.lookup t = some (tupObj [.none] k)) (F : FnOK p f (fnArgs (methS (nthS P1 6) 0)) (fnBody (methS (nthS P1 6) 0)) (fnScope (methS (nthS P1 6) 0)) (.ref t) fo fd) : BindA p fd [x] [("self", x), ("graph", .none)] := by
 intro A L outer h₀ s st hid vs E Q S hv kk
 refine xEA hv.one fun v zz3 hv1 => ?_; subst zz3
 have h1 := F.params
 have h2 := F.dflt
 have h3 := F.kwd
 obtain ⟨a1, a2, a3, a4, a5, a6, a7, a8⟩ := fd
 simp only at h1 h2 h3
 subst h1 h2 h3
 exact BindsTo.of_defaults (binds := [(Str.ofString "self", v), (Str.ofString "graph", .none)]) (T := t) rfl (S.inK _ _ ht) rfl rfl rfl _ _ _ _ (kk h₀ s [v, .none] (.refl _) S (.cons hv1 (.cons .none .nil)))
theorem callAdd {σ : Addr → Option AObj} {ρ : String → Option AV} {S : Srt} {node : Str} {preds : List Str} {B : Nat} (hS : KS2 p ad) (hB : KB p) (hb : b ≠ .handler) (hR : SR ad σ S) (hr : S.ready = none)
   (hz : S.infos.length + preds.length ≤ 900) (hB0 : SsLe (S.infos.map Info.nod) B) (hBz : B + preds.length ≤ 900)
   (h : ∀ S' σ', SR ad σ' S' → Like S S' → S'.infos.map Info.nod = gAdd (S.infos.map Info.nod) node preds → Q .none ⟨ρ, σ'⟩) : CC p (n + 4) b env (.ref ad.add) (.ref S.x :: .str node :: preds.map .str) Q X ⟨ρ, σ⟩ := by
 refine xEE hS.fAdd.ex fun fo fd F => ?_
 refine callFnC F (bindAdd (by simp; lia) F) hb (by intro y hy; simp only [List.mem_cons, List.not_mem_nil, or_false] at hy; rcases hy with rfl | rfl | rfl <;> rfl) (by decide +kernel) rfl rfl rfl fun L' q cd => ?_
 exact add_body hS.toKS hB hR hr hz hB0 hBz fun S' st' hR' hl hg => h S' _ hR' hl hg
theorem callNew {σ : Addr → Option AObj} {ρ : String → Option AV} (hS : KS2 p ad) (hb : b ≠ .handler)
   (h : ∀ S σ', SR ad σ' S → S.infos = [] → S.ready = none → S.po = 0 → S.nf = 0 → Q (.ref S.x) ⟨ρ, σ'⟩) : CC p (n + 2) b env (.ref ad.cT) [] Q X ⟨ρ, σ⟩ := by
 refine makeD hS.makesT hS.findT hS.typeT fun x dx hx hdx hne => ?_
 refine xEEA hS.initT fun t k zz4 ht => ?_; obtain ⟨fo, fd, F⟩ := zz4
 refine callFnC F (bindInit ht F) hb (by intro y hy; simp only [List.mem_cons, List.not_mem_nil, or_false] at hy; rcases hy with rfl | rfl <;> rfl) (by decide +kernel) rfl rfl rfl fun L' q cd => ?_
 refine initT_body (x := x) (dx := dx) hS.toKS (upd_same ..) (by show upd (upd σ dx _) x _ dx = _; rw [upd_ne _ _ hne.symm, upd_same]) hne fun nd ep st' hnd hσ => ⟨rfl, ?_⟩
 replace hnd : upd (upd σ dx (.dict [] 0)) x (.inst ad.cT dx) nd = none := hnd
 have h1 : nd ≠ x := fun z => by rw [z, upd_same] at hnd; exact xsn hnd
 have h2 : nd ≠ dx := fun z => by rw [z, upd_ne _ _ hne.symm, upd_same] at hnd; exact xsn hnd
 refine h ⟨x, dx, nd, [], none, 0, 0⟩ st'.σ ?_ rfl rfl rfl rfl
 rw [hσ]
 refine ⟨?_, ⟨ep, upd_same ..⟩, ⟨0, ?_⟩, fun i hi => (by cases hi), fun a l e => (by exact xns e), .nil, .nil, .nil, h2.symm⟩
 · show upd (upd (upd (upd σ dx _) x _) nd _) dx _ x = _
   rw [upd_ne _ _ hne, upd_ne _ _ h1.symm, upd_same]
 · show upd (upd (upd (upd σ dx _) x _) nd _) dx _ nd = _
   rw [upd_ne _ _ h2, upd_same]; rfl
noncomputable def forBody : Stmt → List Stmt
 | .For _ _ b _ _ => b
 | _ => []
noncomputable def dumS : Stmt := .Pass ⟨0, 0, 0, 0⟩
noncomputable def chainAdd : List Nod → Option Str → List Str → List Nod
 | g, _, [] => g
 | g, q, x :: r => chainAdd (gAdd g x q.toList) (some x) r
theorem gFold_len (x : Str) : ∀ (preds : List Str) (g : List Nod), (preds.foldl (fun g q => gSucc (gTouch g q) q x) g).length ≤ g.length + preds.length
 | [], g => Nat.le_refl _
 | q :: r, g => by
   have h1 := gFold_len x r (gSucc (gTouch g q) q x)
   rw [gSucc_len] at h1
   have h2 := gTouch_len g q
   simp only [List.foldl_cons, List.length_cons]
   lia
theorem gAdd_len (g : List Nod) (x : Str) (preds : List Str) : (gAdd g x preds).length ≤ g.length + 1 + preds.length := by
 unfold gAdd
 have h1 := gFold_len x preds (gMore (gTouch g x) x preds.length)
 rw [gMore_len] at h1
 have h2 := gTouch_len g x
 lia
theorem gFold_ss (x : Str) : ∀ (preds : List Str) (g : List Nod) (B : Nat), SsLe g B → SsLe (preds.foldl (fun g q => gSucc (gTouch g q) q x) g) (B + preds.length)
 | [], g, B, h => h
 | q :: r, g, B, h => by
   have h1 := gFold_ss x r (gSucc (gTouch g q) q x) (B + 1) ((h.touch q).succ _ _)
   simp only [List.foldl_cons, List.length_cons]
   rw [show B + (r.length + 1) = B + 1 + r.length by lia]
   exact h1
theorem gAdd_ss {g : List Nod} {B : Nat} (h : SsLe g B) (x : Str) (preds : List Str) : SsLe (gAdd g x preds) (B + preds.length) := gFold_ss x preds _ B ((h.touch x).more _ _)
theorem ag_add {nd : Addr} {r : AV} {po nf : Int} : aget (attrs nd r po nf) (Str.ofString "add") = none := rfl
structure Fresh (ad : Ad) (σ : Addr → Option AObj) (x : Addr) (g : List Nod) (k : Nat) : Prop where
 ex : ∃ S, SR ad σ S ∧ S.x = x ∧ S.ready = none ∧ S.po = 0 ∧ S.nf = 0 ∧ S.infos.map Info.nod = g
 len : g.length ≤ 2 * k
 ss : SsLe g k
theorem Fresh.add {σ σ' : Addr → Option AObj} {x : Addr} {g : List Nod} {k : Nat} {S S' : Srt} {nm : Str} {preds : List Str} (F : Fresh ad σ x g k) (hp : preds.length ≤ 1) (hx : S.x = x) (hr : S.ready = none) (h1 : S.po = 0) (h2 : S.nf = 0) (hg : S.infos.map Info.nod = g)
   (hR : SR ad σ' S') (hl : Like S S') (hg' : S'.infos.map Info.nod = gAdd (S.infos.map Info.nod) nm preds) : Fresh ad σ' x (gAdd g nm preds) (k + 1) := by
 refine ⟨⟨S', hR, hl.x.trans hx, hl.ready.trans hr, hl.po.trans h1, hl.nf.trans h2, by rw [hg', hg]⟩, ?_, fun y hy => ?_⟩
 · have := gAdd_len g nm preds
   have := F.len
   lia
 · have := gAdd_ss F.ss nm preds y hy
   lia
theorem cut_last (dn rest : List Str) : (((dn ++ rest).map AV.str).drop (if (0 : Int) > (dn.length : Int) - 1 then 0 else (dn.length : Int) - 1).toNat).take ((dn.length : Int).toNat - (if (0 : Int) > (dn.length : Int) - 1 then 0 else (dn.length : Int) - 1).toNat) = dn.getLast?.toList.map AV.str := by
 rcases List.eq_nil_or_concat dn with rfl | ⟨dn', y, rfl⟩
 · simp
 · rw [List.concat_eq_append]
   have e1 : (if (0 : Int) > (((dn' ++ [y]).length : Nat) : Int) - 1 then 0 else (((dn' ++ [y]).length : Nat) : Int) - 1).toNat = dn'.length := by
     simp; split <;> lia
   rw [e1]
   simp [List.drop_append]
noncomputable def succOf (g : List Nod) (x : Str) : List Str := ((g.find? fun y => y.name = x).map (·.ss)).getD []
noncomputable def Topo (succ : Str → List Str) : List Str → Prop
 | [] => True
 | w :: r => (∀ y ∈ succ w, y ∈ r) ∧ Topo succ r
noncomputable def Cyc (g : List Nod) : Prop := ∃ C : Str → Prop, (∃ x, C x) ∧ ∀ x, C x → ∃ y ∈ succOf g x, C y
theorem succOf_mem {g : List Nod} {x y : Str} (h : y ∈ succOf g x) : ∃ z ∈ g, z.name = x ∧ z.ss = succOf g x := by
 unfold succOf at h ⊢
 cases e : g.find? fun y => y.name = x with
 | none => rw [e] at h; simp at h
 | some z => exact ⟨z, List.mem_of_find?_eq_some e, by simpa using List.find?_some e, rfl⟩
theorem succOf_eq {g : List Nod} (hn : (g.map (·.name)).Nodup) {z : Nod} (hz : z ∈ g) : succOf g z.name = z.ss := by
 unfold succOf
 cases e : g.find? fun y => y.name = z.name with
 | none => have := List.find?_eq_none.mp e z hz; simp at this
 | some w =>
   have h1 := List.mem_of_find?_eq_some e
   have h2 : w.name = z.name := by simpa using List.find?_some e
   rw [inj_of_nodup hn h1 hz h2]; rfl
theorem topo_no {succ : Str → List Str} {C : Str → Prop} (hC : ∀ x, C x → ∃ y ∈ succ x, C y) : ∀ {fin : List Str}, Topo succ fin → ∀ x ∈ fin, ¬ C x
 | [], _, _, hx, _ => by cases hx
 | w :: r, ⟨h1, h2⟩, x, hx, hc => by
   rcases List.mem_cons.mp hx with rfl | hx
   · exact xEA (hC x hc) fun y hy hcy => (topo_no hC h2 y (h1 y hy) hcy)
   · exact topo_no hC h2 x hx hc
theorem topo_acyclic {g : List Nod} {fin : List Str} (h : Topo (succOf g) fin) (hall : ∀ z ∈ g, z.name ∈ fin) : ¬ Cyc g := by
 intro zz1; refine xEA zz1 fun C zz2 hC => ?_; obtain ⟨x, hx⟩ := zz2
 refine xEA (hC x hx) fun y hy zw => ?_
 refine xEAA (succOf_mem hy) fun z hz zz3 zw => ?_; subst zz3
 exact topo_no hC h _ (hall z hz) hx
structure Cell where
 it : Addr
 wr : Addr
 sa : Addr
 pos : Nat
structure Fr where
 node : Str
 cell : Cell
noncomputable def OKc (succ : Str → List Str) (fin : List Str) (f : Fr) (c : Str) : Prop := 0 < f.cell.pos ∧ (succ f.node)[f.cell.pos - 1]? = some c ∧ ∀ y ∈ (succ f.node).take (f.cell.pos - 1), y ∈ fin
noncomputable def OKt (succ : Str → List Str) (fin : List Str) (f : Fr) : Prop := ∀ y ∈ (succ f.node).take f.cell.pos, y ∈ fin
noncomputable def LowC (succ : Str → List Str) (fin : List Str) : Str → List Fr → Prop
 | _, [] => True
 | c, f :: r => OKc succ fin f c ∧ LowC succ fin f.node r
noncomputable def Head (succ : Str → List Str) (fin : List Str) : List Fr → Prop
 | [] => True
 | f :: r => OKt succ fin f ∧ LowC succ fin f.node r
theorem OKc.mono {succ : Str → List Str} {fin fin' : List Str} {f : Fr} {c : Str} (h : OKc succ fin f c) (k : ∀ y ∈ fin, y ∈ fin') : OKc succ fin' f c := ⟨h.1, h.2.1, fun y hy => k y (h.2.2 y hy)⟩
theorem LowC.mono {succ : Str → List Str} {fin fin' : List Str} (k : ∀ y ∈ fin, y ∈ fin') : ∀ {fr : List Fr} {c : Str}, LowC succ fin c fr → LowC succ fin' c fr
 | [], _, _ => trivial
 | _ :: _, _, h => ⟨h.1.mono k, LowC.mono k h.2⟩
theorem OKc.top {succ : Str → List Str} {fin : List Str} {f : Fr} {c : Str} (h : OKc succ fin f c) (hc : c ∈ fin) : OKt succ fin f := by
 intro y hy
 refine xAA h fun h1 h2 h3 => ?_
 have : (succ f.node).take f.cell.pos = (succ f.node).take (f.cell.pos - 1) ++ [c] := by
   have e : f.cell.pos = f.cell.pos - 1 + 1 := by lia
   rw [e, List.take_add_one, h2]; simp
 rw [this] at hy
 rcases List.mem_append.mp hy with hy | hy
 · exact h3 y hy
 · simp only [List.mem_singleton] at hy; subst hy; exact hc
theorem LowC.head {succ : Str → List Str} {fin : List Str} {c : Str} {fr : List Fr} (h : LowC succ fin c fr) (hc : c ∈ fin) : Head succ fin fr := by
 cases fr with
 | nil => trivial
 | cons f r => exact ⟨h.1.top hc, h.2⟩
theorem LowC.cyc {g : List Nod} {fin : List Str} {c : Str} {fr : List Fr} (h : LowC (succOf g) fin c fr) (hc : c ∈ fr.map (·.node)) : Cyc g := by
 refine ⟨fun x => x ∈ fr.map (·.node), ⟨c, hc⟩, ?_⟩
 have go : ∀ (fr' : List Fr) (c : Str), LowC (succOf g) fin c fr' → c ∈ fr.map (·.node) → (∀ f ∈ fr', f.node ∈ fr.map (·.node)) → ∀ x ∈ fr'.map (·.node), ∃ y ∈ succOf g x, y ∈ fr.map (·.node) := by
   intro fr'
   induction fr' with
   | nil => intro _ _ _ _ x hx; cases hx
   | cons f r ih =>
     intro c h hc hall x hx
     simp only [List.map_cons, List.mem_cons] at hx
     rcases hx with rfl | hx
     · exact ⟨c, List.mem_of_getElem? h.1.2.1, hc⟩
     · exact ih f.node h.2 (hall f (.head _)) (fun f' hf' => hall f' (.tail _ hf')) x hx
 exact go fr c h hc fun f hf => List.mem_map_of_mem hf
noncomputable def unW (seen : Str → Bool) : List Nod → Nat
 | [] => 0
 | x :: g => (if seen x.name then 0 else x.ss.length + 1) + unW seen g
noncomputable def seenW (seen : Str → Bool) (x : Str) : Str → Bool := fun y => seen y || decide (y = x)
theorem unW_not {seen : Str → Bool} {x : Str} : ∀ {g : List Nod}, (∀ z ∈ g, z.name ≠ x) → unW (seenW seen x) g = unW seen g
 | [], _ => rfl
 | z :: g, h => by
   have h1 := h z (.head _)
   simp only [unW, unW_not fun z hz => h z (.tail _ hz), seenW, h1, decide_false, Bool.or_false]
theorem unW_add {seen : Str → Bool} {z : Nod} : ∀ {g : List Nod}, (g.map (·.name)).Nodup → z ∈ g → seen z.name = false → unW (seenW seen z.name) g + (z.ss.length + 1) = unW seen g
 | [], _, h, _ => by cases h
 | y :: g, hn, h, hs => by
   simp only [List.map_cons, List.nodup_cons] at hn
   rcases List.mem_cons.mp h with rfl | h
   · have : ∀ w ∈ g, w.name ≠ z.name := fun w hw e => hn.1 (e ▸ List.mem_map_of_mem hw)
     simp only [unW, unW_not this]
     simp [seenW, hs]; lia
   · have hne : y.name ≠ z.name := fun e => hn.1 (e ▸ List.mem_map_of_mem h)
     have := unW_add hn.2 h hs
     simp only [unW]
     have e : seenW seen z.name y.name = seen y.name := by simp [seenW, hne]
     rw [e]; lia
noncomputable def frW (succ : Str → List Str) : List Fr → Nat
 | [] => 0
 | f :: r => ((succ f.node).length - f.cell.pos) + frW succ r
structure Dfs (g : List Nod) (fr : List Fr) (fin : List Str) (seen : Str → Bool) : Prop where
 topo : Topo (succOf g) fin
 nod : (fr.map (·.node)).Nodup
 dis : ∀ f ∈ fr, f.node ∉ fin
 seen : ∀ y, seen y = true ↔ y ∈ fin ∨ y ∈ fr.map (·.node)
 names : ∀ f ∈ fr, ∃ z ∈ g, z.name = f.node
theorem Dfs.push {g : List Nod} {fr : List Fr} {fin : List Str} {seen : Str → Bool} (D : Dfs g fr fin seen) {x : Str} {c : Cell} (hs : seen x = false) (hz : ∃ z ∈ g, z.name = x) : Dfs g (⟨x, c⟩ :: fr) fin (seenW seen x) := by
 have hx : ¬ (x ∈ fin ∨ x ∈ fr.map (·.node)) := fun h => by rw [(D.seen x).mpr h] at hs; exact xtf hs
 refine ⟨D.topo, ?_, fun f hf => ?_, fun y => ?_, fun f hf => ?_⟩
 · simp only [List.map_cons, List.nodup_cons]
   exact ⟨fun h => hx (.inr h), D.nod⟩
 · rcases List.mem_cons.mp hf with rfl | hf
   · exact fun h => hx (.inl h)
   · exact D.dis f hf
 · simp only [seenW, Bool.or_eq_true, D.seen y, decide_eq_true_eq, List.map_cons, List.mem_cons]
   constructor
   · rintro ((h | h) | h)
     · exact .inl h
     · exact .inr (.inr h)
     · exact .inr (.inl h)
   · rintro (h | h | h)
     · exact .inl (.inl h)
     · exact .inr h
     · exact .inl (.inr h)
 · rcases List.mem_cons.mp hf with rfl | hf
   · exact hz
   · exact D.names f hf
theorem Dfs.pop {g : List Nod} {f : Fr} {fr : List Fr} {fin : List Str} {seen : Str → Bool} (D : Dfs g (f :: fr) fin seen) (h : ∀ y ∈ succOf g f.node, y ∈ fin) : Dfs g fr (f.node :: fin) seen := by
 have hn := D.nod
 simp only [List.map_cons, List.nodup_cons] at hn
 refine ⟨⟨h, D.topo⟩, hn.2, fun f' hf' => ?_, fun y => ?_, fun f' hf' => D.names f' (.tail _ hf')⟩
 · intro hm
   rcases List.mem_cons.mp hm with e | hm
   · exact hn.1 (e ▸ List.mem_map_of_mem hf')
   · exact D.dis f' (.tail _ hf') hm
 · rw [D.seen y]
   simp only [List.map_cons, List.mem_cons]
   constructor
   · rintro (h | h | h)
     · exact .inl (.inr h)
     · exact .inl (.inl h)
     · exact .inr h
   · rintro ((h | h) | h)
     · exact .inr (.inl h)
     · exact .inl h
     · exact .inr (.inr h)
theorem Dfs.adv {g : List Nod} {f f' : Fr} {fr : List Fr} {fin : List Str} {seen : Str → Bool} (D : Dfs g (f :: fr) fin seen) (h : f'.node = f.node) : Dfs g (f' :: fr) fin seen := by
 refine ⟨D.topo, by have := D.nod; simp only [List.map_cons] at this ⊢; rw [h]; exact this, fun x hx => ?_, fun y => ?_, fun x hx => ?_⟩
 · rcases List.mem_cons.mp hx with rfl | hx
   · rw [h]; exact D.dis f (.head _)
   · exact D.dis x (.tail _ hx)
 · rw [D.seen y]; simp only [List.map_cons, h]
 · rcases List.mem_cons.mp hx with rfl | hx
   · rw [h]; exact D.names f (.head _)
   · exact D.names x (.tail _ hx)
theorem Head.next {succ : Str → List Str} {fin : List Str} {f : Fr} {fr : List Fr} {c : Str} (h : Head succ fin (f :: fr)) (hc : (succ f.node)[f.cell.pos]? = some c) : LowC succ fin c (⟨f.node, { f.cell with pos := f.cell.pos + 1 }⟩ :: fr) := by
 refine ⟨⟨Nat.succ_pos _, hc, fun y hy => h.1 y hy⟩, h.2⟩
theorem Head.pop {succ : Str → List Str} {fin : List Str} {f : Fr} {fr : List Fr} (h : Head succ fin (f :: fr)) (hc : (succ f.node).length ≤ f.cell.pos) : (∀ y ∈ succ f.node, y ∈ fin) ∧ Head succ (f.node :: fin) fr := by
 exact ⟨fun y hy => h.1 y (by rw [List.take_of_length_le hc]; exact hy), ((h.2.mono fun y hy => .tail _ hy).head (.head _))⟩
noncomputable def idxD : List Fr → List (Str × AV)
 | [] => []
 | f :: r => idxD r ++ [(f.node, .int (r.length : Nat))]
theorem idxD_keys : ∀ (fr : List Fr) (k : Str × AV), k ∈ idxD fr → k.1 ∈ fr.map (·.node)
 | [], k, h => by cases h
 | f :: r, k, h => by
   rcases List.mem_append.mp h with h | h
   · exact .tail _ (idxD_keys r k h)
   · simp only [List.mem_singleton] at h; subst h; exact .head _
theorem idxD_len : ∀ fr : List Fr, (idxD fr).length = fr.length
 | [] => rfl
 | f :: r => by simp [idxD, idxD_len r]
theorem idxD_get : ∀ {fr : List Fr} {x : Str}, (x ∈ fr.map (·.node) → ∃ j : Nat, j < fr.length ∧ aget (idxD fr) x = some (.int j)) ∧ (x ∉ fr.map (·.node) → aget (idxD fr) x = none)
 | [], x => ⟨fun h => (by cases h), fun zw => rfl⟩
 | f :: r, x => by
   have ih := idxD_get (fr := r) (x := x)
   unfold aget at ih ⊢
   simp only [idxD, List.find?_append]
   constructor
   · intro h
     by_cases hr : x ∈ r.map (·.node)
     · refine xEA (ih.1 hr) fun j hj e => ?_
       refine ⟨j, by simp; lia, ?_⟩
       cases q : (idxD r).find? fun e => e.1 = x with
       | none => rw [q] at e; exact xns e
       | some w => rw [q] at e; simpa using e
     · have e := ih.2 hr
       simp only [List.map_cons, List.mem_cons] at h
       have hx : f.node = x := by rcases h with h | h; exact h.symm; exact (hr h).elim
       refine ⟨r.length, by simp, ?_⟩
       cases q : (idxD r).find? fun e => e.1 = x with
       | some w => rw [q] at e; exact xsn e
       | none => simp [hx]
   · intro h
     simp only [List.map_cons, List.mem_cons, not_or] at h
     have e := ih.2 h.2
     cases q : (idxD r).find? fun e => e.1 = x with
     | some w => rw [q] at e; exact xsn e
     | none => simp [Ne.symm h.1]
theorem idxD_set {fr : List Fr} {x : Str} {c : Cell} (h : x ∉ fr.map (·.node)) : aset (idxD fr) x (.int (fr.length : Nat)) = idxD (⟨x, c⟩ :: fr) := by
 unfold aset
 rw [if_neg]
 · rfl
 · simp only [List.any_eq_true, decide_eq_true_eq, not_exists, not_and]
   intro k hk e
   exact h (e ▸ idxD_keys fr k hk)
theorem idxD_del {f : Fr} {fr : List Fr} (h : f.node ∉ fr.map (·.node)) : adel (idxD (f :: fr)) f.node = idxD fr := by
 unfold adel
 simp only [idxD, List.filter_append]
 rw [List.filter_eq_self.mpr]
 · simp
 · intro k hk
   simp only [ne_eq, decide_eq_true_eq]
   exact fun e => h (e ▸ idxD_keys fr k hk)
theorem ne_of {σ : Addr → Option AObj} {a c : Addr} {o o' : AObj} (h : σ a = some o) (h' : σ c = some o') (hne : o ≠ o') : a ≠ c := fun z => by rw [z, h'] at h; exact hne (Option.some.inj h).symm
theorem ne_fresh {σ : Addr → Option AObj} {a c : Addr} {o : AObj} (h : σ a = some o) (h' : σ c = none) : a ≠ c := fun z => by rw [z, h'] at h; exact xns h
theorem wrap_ne_iter {it sa : Addr} {i : Int} : AObj.raw (wrapObj it) ≠ .raw (iterObj sa i) := by
 intro z
 have h := congrArg (fun o => match o with | AObj.raw o => (match o.cls with | .type t => t | _ => "") | _ => "") z
 exact absurd (show ("method-wrapper" : String) = "list_iterator" from h) (by decide)
structure DG (σ₀ : Addr → Option AObj) (sA iA eA dA : Addr) (σ : Addr → Option AObj) (stl : List Str) (itl : List Addr) (seen : Str → Bool) (ns : Nat) (dl : List (Str × AV)) (cells : List Cell) : Prop where
 ext : ∀ a o, σ₀ a = some o → σ a = some o
 hs : σ sA = some (.list (stl.map .str))
 hi : σ iA = some (.list (itl.map .ref))
 he : σ eA = some (.set seen ns)
 hd : ∃ ep, σ dA = some (.dict dl ep)
 new : σ₀ sA = none ∧ σ₀ iA = none ∧ σ₀ eA = none ∧ σ₀ dA = none
 ne : sA ≠ iA
 cel : ∀ c ∈ cells, σ c.it = some (.raw (iterObj c.sa c.pos)) ∧ σ c.wr = some (.raw (wrapObj c.it)) ∧ σ₀ c.it = none
 nd : (cells.map (·.it)).Nodup
section
variable {σ₀ σ : Addr → Option AObj} {sA iA eA dA : Addr} {stl : List Str} {itl : List Addr} {seen : Str → Bool} {ns : Nat} {dl : List (Str × AV)} {cells : List Cell}
theorem DG.setS (D : DG σ₀ sA iA eA dA σ stl itl seen ns dl cells) (l : List Str) : DG σ₀ sA iA eA dA (upd σ sA (.list (l.map .str))) l itl seen ns dl cells := by
 refine xE D.hd fun ep hd => ?_
 have k : ∀ a o, σ a = some o → (∀ l, o ≠ .list l) → upd σ sA (.list (l.map .str)) a = some o := fun a o e h => by
   rw [upd_ne _ _ (ne_of e D.hs (h _))]; exact e
 refine ⟨fun a o e => ?_, upd_same .., ?_, k _ _ D.he (by intro _ z; exact xao z rfl), ⟨ep, k _ _ hd (by intro _ z; exact xao z rfl)⟩, D.new, D.ne, fun c hc => ?_, D.nd⟩
 · rw [upd_ne _ _ (ne_fresh e D.new.1)]; exact D.ext a o e
 · rw [upd_ne _ _ D.ne.symm]; exact D.hi
 · exact xAA (D.cel c hc) fun h1 h2 h3 => ⟨k _ _ h1 (by intro _ z; exact xao z rfl), k _ _ h2 (by intro _ z; exact xao z rfl), h3⟩
theorem DG.setI (D : DG σ₀ sA iA eA dA σ stl itl seen ns dl cells) (l : List Addr) : DG σ₀ sA iA eA dA (upd σ iA (.list (l.map .ref))) stl l seen ns dl cells := by
 refine xE D.hd fun ep hd => ?_
 have k : ∀ a o, σ a = some o → (∀ l, o ≠ .list l) → upd σ iA (.list (l.map .ref)) a = some o := fun a o e h => by
   rw [upd_ne _ _ (ne_of e D.hi (h _))]; exact e
 refine ⟨fun a o e => ?_, ?_, upd_same .., k _ _ D.he (by intro _ z; exact xao z rfl), ⟨ep, k _ _ hd (by intro _ z; exact xao z rfl)⟩, D.new, D.ne, fun c hc => ?_, D.nd⟩
 · rw [upd_ne _ _ (ne_fresh e D.new.2.1)]; exact D.ext a o e
 · rw [upd_ne _ _ D.ne]; exact D.hs
 · exact xAA (D.cel c hc) fun h1 h2 h3 => ⟨k _ _ h1 (by intro _ z; exact xao z rfl), k _ _ h2 (by intro _ z; exact xao z rfl), h3⟩
theorem DG.setE (D : DG σ₀ sA iA eA dA σ stl itl seen ns dl cells) (T : Str → Bool) (m : Nat) : DG σ₀ sA iA eA dA (upd σ eA (.set T m)) stl itl T m dl cells := by
 refine xE D.hd fun ep hd => ?_
 have k : ∀ a o, σ a = some o → (∀ T m, o ≠ .set T m) → upd σ eA (.set T m) a = some o := fun a o e h => by
   rw [upd_ne _ _ (ne_of e D.he (h _ _))]; exact e
 refine ⟨fun a o e => ?_, k _ _ D.hs (by intro _ _ z; exact xao z rfl), k _ _ D.hi (by intro _ _ z; exact xao z rfl), upd_same .., ⟨ep, k _ _ hd (by intro _ _ z; exact xao z rfl)⟩, D.new, D.ne, fun c hc => ?_, D.nd⟩
 · rw [upd_ne _ _ (ne_fresh e D.new.2.2.1)]; exact D.ext a o e
 · exact xAA (D.cel c hc) fun h1 h2 h3 => ⟨k _ _ h1 (by intro _ _ z; exact xao z rfl), k _ _ h2 (by intro _ _ z; exact xao z rfl), h3⟩
theorem DG.setD (D : DG σ₀ sA iA eA dA σ stl itl seen ns dl cells) (l : List (Str × AV)) (ep' : Nat) : DG σ₀ sA iA eA dA (upd σ dA (.dict l ep')) stl itl seen ns l cells := by
 refine xE D.hd fun ep hd => ?_
 have k : ∀ a o, σ a = some o → (∀ T m, o ≠ .dict T m) → upd σ dA (.dict l ep') a = some o := fun a o e h => by
   rw [upd_ne _ _ (ne_of e hd (h _ _))]; exact e
 refine ⟨fun a o e => ?_, k _ _ D.hs (by intro _ _ z; exact xao z rfl), k _ _ D.hi (by intro _ _ z; exact xao z rfl), k _ _ D.he (by intro _ _ z; exact xao z rfl), ⟨ep', upd_same ..⟩, D.new, D.ne, fun c hc => ?_, D.nd⟩
 · rw [upd_ne _ _ (ne_fresh e D.new.2.2.2)]; exact D.ext a o e
 · exact xAA (D.cel c hc) fun h1 h2 h3 => ⟨k _ _ h1 (by intro _ _ z; exact xao z rfl), k _ _ h2 (by intro _ _ z; exact xao z rfl), h3⟩
theorem DG.newC (D : DG σ₀ sA iA eA dA σ stl itl seen ns dl cells) {it wr sa : Addr} (h1 : σ it = none) (h2 : upd σ it (.raw (iterObj sa 0)) wr = none) :
   DG σ₀ sA iA eA dA (upd (upd σ it (.raw (iterObj sa 0))) wr (.raw (wrapObj it))) stl itl seen ns dl (⟨it, wr, sa, 0⟩ :: cells) := by
 refine xE D.hd fun ep hd => ?_
 have hw : wr ≠ it := fun z => by rw [z, upd_same] at h2; exact xsn h2
 have h3 : σ wr = none := by rwa [upd_ne _ _ hw] at h2
 have k : ∀ a o, σ a = some o → upd (upd σ it (.raw (iterObj sa 0))) wr (.raw (wrapObj it)) a = some o := fun a o e => by
   rw [upd_ne _ _ (ne_fresh e h3), upd_ne _ _ (ne_fresh e h1)]; exact e
 refine ⟨fun a o e => k a o (D.ext a o e), k _ _ D.hs, k _ _ D.hi, k _ _ D.he, ⟨ep, k _ _ hd⟩, D.new, D.ne, fun c hc => ?_, ?_⟩
 · rcases List.mem_cons.mp hc with rfl | hc
   · refine ⟨by rw [upd_ne _ _ hw.symm, upd_same]; rfl, upd_same .., ?_⟩
     cases q : σ₀ it with
     | none => rfl
     | some o => rw [D.ext _ _ q] at h1; exact xsn h1
   · exact xAA (D.cel c hc) fun e1 e2 e3 => ⟨k _ _ e1, k _ _ e2, e3⟩
 · simp only [List.map_cons, List.nodup_cons]
   refine ⟨fun h => (xEA (List.mem_map.mp h) fun c hc e => ?_), D.nd⟩
   have := (D.cel c hc).1
   rw [e, h1] at this; exact xns this
theorem DG.adv {c : Cell} (D : DG σ₀ sA iA eA dA σ stl itl seen ns dl (c :: cells)) : DG σ₀ sA iA eA dA (upd σ c.it (.raw (iterObj c.sa ((c.pos : Int) + 1)))) stl itl seen ns dl ({ c with pos := c.pos + 1 } :: cells) := by
 refine xE D.hd fun ep hd => (xAA (D.cel c (.head _)) fun h1 h2 h3 => ?_)
 have hnd := D.nd
 simp only [List.map_cons, List.nodup_cons] at hnd
 have k : ∀ a o, σ a = some o → (o ≠ .raw (iterObj c.sa c.pos)) → upd σ c.it (.raw (iterObj c.sa ((c.pos : Int) + 1))) a = some o := fun a o e h => by
   rw [upd_ne _ _ (ne_of e h1 h)]; exact e
 refine ⟨fun a o e => ?_, k _ _ D.hs (by intro z; exact xao z rfl), k _ _ D.hi (by intro z; exact xao z rfl), k _ _ D.he (by intro z; exact xao z rfl), ⟨ep, k _ _ hd (by intro z; exact xao z rfl)⟩, D.new, D.ne, fun c' hc => ?_, by simpa using hnd⟩
 · rw [upd_ne _ _ (ne_fresh e h3)]; exact D.ext a o e
 · rcases List.mem_cons.mp hc with rfl | hc
   · exact ⟨upd_same .., k _ _ h2 wrap_ne_iter, h3⟩
   · refine xAA (D.cel c' (.tail _ hc)) fun e1 e2 e3 => ⟨?_, k _ _ e2 wrap_ne_iter, e3⟩
     have hne : c'.it ≠ c.it := fun z => hnd.1 (by rw [← z]; exact List.mem_map_of_mem hc)
     rw [upd_ne _ _ hne]; exact e1
theorem DG.delC {c : Cell} (D : DG σ₀ sA iA eA dA σ stl itl seen ns dl (c :: cells)) : DG σ₀ sA iA eA dA (era σ c.it) stl itl seen ns dl cells := by
 refine xE D.hd fun ep hd => (xAA (D.cel c (.head _)) fun h1 h2 h3 => ?_)
 have hnd := D.nd
 simp only [List.map_cons, List.nodup_cons] at hnd
 have k : ∀ a o, σ a = some o → (o ≠ .raw (iterObj c.sa c.pos)) → era σ c.it a = some o := fun a o e h => by
   rw [era_ne _ (ne_of e h1 h)]; exact e
 refine ⟨fun a o e => ?_, k _ _ D.hs (by intro z; exact xao z rfl), k _ _ D.hi (by intro z; exact xao z rfl), k _ _ D.he (by intro z; exact xao z rfl), ⟨ep, k _ _ hd (by intro z; exact xao z rfl)⟩, D.new, D.ne, fun c' hc => ?_, hnd.2⟩
 · rw [era_ne _ (ne_fresh e h3)]; exact D.ext a o e
 · refine xAA (D.cel c' (.tail _ hc)) fun e1 e2 e3 => ⟨?_, k _ _ e2 wrap_ne_iter, e3⟩
   have hne : c'.it ≠ c.it := fun z => hnd.1 (by rw [← z]; exact List.mem_map_of_mem hc)
   rw [era_ne _ hne]; exact e1
end
noncomputable def whBody : Stmt → List Stmt
 | .While _ b _ _ => b
 | _ => []
noncomputable def fF : List Stmt := fnBody (methS (nthS P1 6) 8)
noncomputable def fFor : Stmt := fF.getD 5 dumS
noncomputable def fWh : Stmt := (forBody fFor).getD 1 dumS
noncomputable def fIf : Stmt := (whBody fWh).getD 0 dumS
noncomputable def fIn : Stmt := (whBody fWh).getD 1 dumS
theorem isExc_stop : isSubtype (.type "StopIteration") (.type "BaseException") = pure true := by rw [isSubtype_type]; kernel_rfl
theorem notTuple_stop : isSubtype (.type ((Manifest.find? "StopIteration").elim "type" fun x => x.metatype)) (.type "tuple") = pure false := by
 rw [show (Manifest.find? "StopIteration").elim "type" (fun x => x.metatype) = "type" from by kernel_rfl]; exact tc_notTuple
theorem sub_stop : isSubtype (.type "StopIteration") (.type "StopIteration") = pure true := by rw [isSubtype_type]; kernel_rfl
theorem SR.ext {σ σ' : Addr → Option AObj} {S : Srt} (hR : SR ad σ S) (k : ∀ a o, σ a = some o → σ' a = some o) : SR ad σ' S := by
 exact xE hR.hdx fun e1 h1 => (xE hR.hnd fun e2 h2 => ⟨k _ _ hR.hx, ⟨e1, k _ _ h1⟩, ⟨e2, k _ _ h2⟩, fun i hi => ⟨k _ _ (hR.hin i hi).1, k _ _ (hR.hin i hi).2⟩, fun a l e => ⟨k _ _ (hR.hrd a l e).1, (hR.hrd a l e).2⟩, hR.names, hR.addrs, hR.succs, hR.ne⟩)
structure FS (S : Srt) (σ₀ : Addr → Option AObj) (sA iA eA dA : Addr) (st : St) (fr : List Fr) (seen : Str → Bool) (ns : Nat) : Prop where
 r1 : st.ρ "n2i" = some (.ref S.nd)
 r2 : st.ρ "stack" = some (.ref sA)
 r3 : st.ρ "itstack" = some (.ref iA)
 r4 : st.ρ "seen" = some (.ref eA)
 r5 : st.ρ "node2stacki" = some (.ref dA)
 dg : DG σ₀ sA iA eA dA st.σ (fr.reverse.map (·.node)) (fr.reverse.map (·.cell.wr)) seen ns (idxD fr) (fr.map (·.cell))
 sas : ∀ f ∈ fr, ∃ i ∈ S.infos, i.name = f.node ∧ i.succ = f.cell.sa
theorem info_ss {S : Srt} {σ : Addr → Option AObj} (hR : SR ad σ S) {i : Info} (hi : i ∈ S.infos) : succOf (S.infos.map Info.nod) i.name = i.ss := by
 have hn : ((S.infos.map Info.nod).map (·.name)).Nodup := by
   rw [List.map_map]; exact hR.names
 exact succOf_eq hn (z := i.nod) (List.mem_map_of_mem hi)
theorem inner_loop {L' f0 : Addr} {q : Str} {cd : Value} {σ₀ : Addr → Option AObj} {S : Srt} {sA iA eA dA : Addr} {st : St} {fr : List Fr} {fin : List Str} {seen : Str → Bool} {ns : Nat} {Q : AF → St → Prop} (hB : KB p) (hR : SR ad σ₀ S)
   (hz : S.infos.length ≤ 900) (hcl : ∀ z ∈ S.infos, ∀ y ∈ z.ss, ∃ w ∈ S.infos, w.name = y)
   (Z : FS S σ₀ sA iA eA dA st fr seen ns) (D : Dfs (S.infos.map Info.nod) fr fin seen) (H : Head (succOf (S.infos.map Info.nod)) fin fr) (hfr : fr.length ≤ 900)
   (hbrk : ∀ st' fr' fin' node, FS S σ₀ sA iA eA dA st' fr' seen ns → st'.ρ "node" = some (.str node) → (∃ w ∈ S.infos, w.name = node) → Dfs (S.infos.map Info.nod) fr' fin' seen → LowC (succOf (S.infos.map Info.nod)) fin' node fr' → fr'.length ≤ fr.length → frW (succOf (S.infos.map Info.nod)) fr' < frW (succOf (S.infos.map Info.nod)) fr → Q .next st')
   (hend : ∀ st' fin', FS S σ₀ sA iA eA dA st' [] seen ns → Dfs (S.infos.map Info.nod) [] fin' seen → Q .brk st') :
   XW p n .body (mkEnv (fnScope (methS (nthS P1 6) 8)) L' f0 q cd) fIn Q X st := by
 refine XW.while (by decide) (fun m st' => ∃ fr' fin', m = fr'.length ∧ FS S σ₀ sA iA eA dA st' fr' seen ns ∧ Dfs (S.infos.map Info.nod) fr' fin' seen ∧ Head (succOf (S.infos.map Info.nod)) fin' fr' ∧ fr'.length ≤ fr.length ∧ frW (succOf (S.infos.map Info.nod)) fr' ≤ frW (succOf (S.infos.map Info.nod)) fr) ?_ fr.length ⟨fr, fin, rfl, Z, D, H, Nat.le_refl _, Nat.le_refl _⟩
 intro m st' zz1; refine xEEAAAAA zz1 fun fr' fin' zz2 F' D' H' hl' hw' => ?_; subst zz2
 refine TW.plain (EW.var F'.r2 (truthy_list (.inr ⟨sA, rfl, F'.dg.hs⟩) ?_ (by simp; lia)))
 cases fr' with
 | nil =>
   exact ite_f (by decide) (SW.cons (XW.brk (hend st' fin' F' D')))
 | cons f r =>
   refine ite_t (by simp) (xEAA (F'.sas f (.head _)) fun i hi hin his => (xAA (F'.dg.cel f.cell (.head _)) fun c1 c2 c3 => ?_))
   have hss := info_ss hR hi
   rw [hin] at hss
   have hl : st'.σ f.cell.sa = some (.list (i.ss.map .str)) := F'.dg.ext _ _ (his ▸ (hR.hin i hi).2)
   have hit := F'.dg.hi
   simp only [List.reverse_cons, List.map_append, List.map_cons, List.map_nil] at hit
   refine SW.cons ?_
   refine XW.tryB (T := "StopIteration") ?t1 ?t2 ?t3 ?t4 ?t5 ?t6 ?t7 ?t8 ?t9
   case t1 => decide
   case t2 => exact hB.stop
   case t3 => exact bb_stop
   case t4 => exact isExc_stop
   case t5 => exact notTuple_stop
   case t7 => rfl
   case t8 => decide +kernel
   case t9 => decide +kernel
   refine SW.cons (XW.assign (EW.callE (wr := f.cell.wr) (it := f.cell.it) (EW.sub (EW.var F'.r3 (EW.unop (EW.int (neg_int (idx_last (x := .ref f.cell.wr) (.inr ⟨iA, rfl, hit⟩) (by simp) ⟨rfl, c2, ?_⟩))))))))
   by_cases hp : f.cell.pos < i.ss.length
   · refine xE ((⟨_, List.getElem?_eq_getElem hp⟩) : ∃ c, i.ss[f.cell.pos]? = some c) fun c hc => (call_next c2 c1 hl (a := .str c) (by simp [hc]) ?_)
     refine SW.cons (XW.brk ?_)
     refine hbrk _ (⟨f.node, { f.cell with pos := f.cell.pos + 1 }⟩ :: r) fin' c ?_ rfl (hcl i hi c (List.mem_of_getElem? hc)) (D'.adv rfl) (H'.next (by rw [hss]; exact hc)) (by simpa using hl') ?_
     · refine ⟨F'.r1, F'.r2, F'.r3, F'.r4, F'.r5, ?_, fun f' hf' => ?_⟩
       · have := F'.dg.adv
         simp [idxD] at this ⊢
         exact this
       · rcases List.mem_cons.mp hf' with rfl | hf'
         · exact ⟨i, hi, hin, his⟩
         · exact F'.sas f' (.tail _ hf')
     · refine Nat.lt_of_lt_of_le ?_ hw'
       simp only [frW, hss]
       lia
   · have hnone : (i.ss.map AV.str)[((f.cell.pos : Nat) : Int).toNat]? = none := by simp; lia
     refine call_stop (by decide) c2 c1 hl hnone ⟨"StopIteration", rfl, sub_stop, ?_⟩
     have hn := D'.nod
     simp only [List.map_cons, List.nodup_cons] at hn
     have G1 := F'.dg.delC
     have hs1 := G1.hs
     simp only [List.reverse_cons, List.map_append, List.map_cons, List.map_nil] at hs1
     refine SW.cons (XW.delSub (EW.var F'.r5 (EW.callM (EW.var F'.r2 (MW.builtin (recv_list (.inr ⟨sA, rfl, hs1⟩)) F.plainAttrs_list F.slot_list_pop F.type_list_pop (AW.nil (call_pop hs1 (a := .str f.node) (by simp) ?_ (by simp at hl' ⊢; lia))))))))
     have G2 := G1.setS (r.reverse.map (·.node))
     refine xE G2.hd fun ep2 hd2 => ?_
     rw [List.dropLast_concat]
     have hget := (idxD_get (fr := f :: r) (x := f.node)).1 (.head _)
     refine del_dict hd2 ?_ (fun ep3 => ?_) (by rw [idxD_len]; simp at hl' ⊢; lia)
     · refine xEA hget fun j _ e => ?_; rw [e]; rfl
     rw [idxD_del hn.1]
     have G3 := G2.setD (idxD r) ep3
     have hi3 := G3.hi
     simp only [List.reverse_cons, List.map_append, List.map_cons, List.map_nil] at hi3
     refine SW.cons (XW.expr (EW.callM (EW.var F'.r3 (MW.builtin (recv_list (.inr ⟨iA, rfl, hi3⟩)) F.plainAttrs_list F.slot_list_pop F.type_list_pop (AW.nil (call_pop hi3 (a := .ref f.cell.wr) (by simp) ?_ (by simp at hl' ⊢; lia)))))))
     rw [List.dropLast_concat]
     have G4 := G3.setI (r.reverse.map (·.cell.wr))
     refine SW.nil (SW.nil (xA (H'.pop (by rw [hss]; lia)) fun p1 p2 => ?_))
     refine ⟨r.length, by simp, r, f.node :: fin', rfl, ⟨F'.r1, F'.r2, F'.r3, F'.r4, F'.r5, G4, fun f' hf' => F'.sas f' (.tail _ hf')⟩, D'.pop p1, p2, by simp at hl'; lia, Nat.le_trans ?_ hw'⟩
     simp only [frW]; lia
noncomputable def strip (g : List Nod) : List Nod := g.map fun z => ⟨z.name, z.np, []⟩
theorem unW_all (seen : Str → Bool) : ∀ g : List Nod, unW seen (strip g) ≤ g.length
 | [] => Nat.le_refl _
 | z :: g => by
   have := unW_all seen g
   simp only [strip, List.map_cons, unW, List.length_cons, List.length_nil] at this ⊢
   split <;> lia
theorem strip_names (g : List Nod) : (strip g).map (·.name) = g.map (·.name) := by simp [strip, Function.comp_def]
theorem mapA (l : List Addr) (a : Addr) : l.map AV.ref ++ [AV.ref a] = (l ++ [a]).map AV.ref := by simp
theorem mapS (l : List Str) (a : Str) : l.map AV.str ++ [AV.str a] = (l ++ [a]).map AV.str := by simp
theorem outer_if {L' f0 : Addr} {q : Str} {cd : Value} {σ₀ : Addr → Option AObj} {S : Srt} {sA iA eA dA : Addr} {st : St} {fr : List Fr} {fin : List Str} {seen : Str → Bool} {ns : Nat} {node : Str} {Q : AF → St → Prop} (hS : KS2 p ad) (hB : KB p) (hR : SR ad σ₀ S)
   (Z : FS S σ₀ sA iA eA dA st fr seen ns) (hnode : st.ρ "node" = some (.str node)) (hw : ∃ w ∈ S.infos, w.name = node) (D : Dfs (S.infos.map Info.nod) fr fin seen) (H : LowC (succOf (S.infos.map Info.nod)) fin node fr) (hfr : fr.length ≤ 900) (hns : ns ≤ 900)
   (hret : ∀ st' l, l ≠ [] → l.length ≤ 1000 → SR ad st'.σ S → Cyc (S.infos.map Info.nod) → Q (.ret (.lst l)) st')
   (hold : seen node = true → Head (succOf (S.infos.map Info.nod)) fin fr → Q .next st)
   (hnew : seen node = false → ∀ st' c, FS S σ₀ sA iA eA dA st' (⟨node, c⟩ :: fr) (seenW seen node) (ns + 1) → c.pos = 0 → st'.ρ "node" = some (.str node) → Dfs (S.infos.map Info.nod) (⟨node, c⟩ :: fr) fin (seenW seen node) → Head (succOf (S.infos.map Info.nod)) fin (⟨node, c⟩ :: fr) → Q .next st') :
   XW p n .body (mkEnv (fnScope (methS (nthS P1 6) 8)) L' f0 q cd) fIf Q X st := by
 refine XW.iff (TW.cmp (EW.var hnode (EW.var Z.r4 (in_set Z.dg.he (truthy_bool (xE Z.dg.hd fun ep hd => ?_))))))
 cases hse : seen node with
 | true =>
   refine ite_t rfl (SW.cons (XW.iff (TW.cmp (EW.var hnode (EW.var Z.r5 (in_dict hd (truthy_bool ?_)))))))
   by_cases hin : node ∈ fr.map (·.node)
   · refine xEA ((idxD_get (fr := fr)).1 hin) fun j hj e => ?_
     rw [e, if_pos (by rfl)]
     exact SW.cons (XW.ret (EW.binop (EW.cut (EW.var Z.r2 (OW.yes (EW.sub (EW.var Z.r5 (EW.var hnode (idx_dict hd e (OW.no (cut_from (.inr ⟨sA, rfl, Z.dg.hs⟩) (EW.list (LW.cons (EW.var hnode (LW.nil ⟨(add_lists (.inl rfl) (.inl rfl) (hret _ _ (by simp) (by simp; lia) (hR.ext Z.dg.ext) (H.cyc hin)) (by simp; lia)), by simp⟩)))) (by simp; lia))))))))))))
   · rw [(idxD_get (fr := fr)).2 hin, if_neg (by simp)]
     refine SW.nil (SW.nil ?_)
     have hfin : node ∈ fin := by
       rcases (D.seen node).mp hse with h | h
       · exact h
       · exact (hin h).elim
     exact hold hse (H.head hfin)
 | false =>
   refine ite_f (by decide) ?_
   have hni : node ∉ fr.map (·.node) := fun h => by rw [(D.seen node).mpr (.inr h)] at hse; exact xtf hse
   refine xEA hw fun i hi hin => (SW.cons (XW.expr (EW.callM (EW.var Z.r4 (MW.builtin (recv_set Z.dg.he) F.plainAttrs_set F.slot_set_add F.type_set_add (AW.cons (LW.cons (EW.var hnode (LW.nil (call_sadd Z.dg.he ?_ (by lia)))))))))))
   have G1 := Z.dg.setE (seenW seen node) (ns + 1)
   rw [hse]
   have hi1 := G1.hi
   refine xE hR.hnd fun ep1 hnd => (xA (hR.hin i hi) fun ha1 ha2 => ?_)
   refine SW.cons (XW.append (EW.var Z.r3 ⟨iA, rfl, (EW.attr (EW.callB hB.iter bb_iter (AW.cons (LW.cons (EW.attr (EW.sub (EW.var Z.r1 (EW.var hnode (idx_dict (G1.ext _ _ hnd) (aget_info.1 i hi hin hR.names) (ga_slot (G1.ext _ _ ha1) hS.clsN hS.sSucc rfl (LW.nil (call_iter (G1.ext _ _ ha2) fun it hit => (ga_next (upd_same ..) fun wr hwr => ?_))))))))))))), _, hi1⟩))
   have G2 := G1.newC hit hwr
   refine ⟨_, G2.hi, by simp; lia, ?_⟩
   rw [mapA]
   have G3 := G2.setI (fr.reverse.map (·.cell.wr) ++ [wr])
   refine xE G3.hd fun ep3 hd3 => ?_
   refine SW.cons (XW.assignSub (EW.callB hB.len bb_len (AW.cons (LW.cons (EW.var Z.r2 (LW.nil (call_len (.inr ⟨sA, rfl, G3.hs⟩) (EW.var Z.r5 (EW.var hnode ?_)) (by simp; lia))))))))
   have hlen : (((fr.reverse.map (·.node)).map AV.str).length : Int) = ((fr.length : Nat) : Int) := by simp
   rw [hlen]
   refine si_dict hd3 (fun ep4 => ?_) (by rw [idxD_len]; lia)
   rw [idxD_set (c := ⟨it, wr, i.succ, 0⟩) hni]
   have G4 := G3.setD (idxD (⟨node, ⟨it, wr, i.succ, 0⟩⟩ :: fr)) ep4
   refine SW.cons (XW.append (EW.var Z.r2 ⟨sA, rfl, (EW.var hnode ?_), _, G4.hs⟩))
   refine ⟨_, G4.hs, by simp; lia, ?_⟩
   rw [mapS]
   have G5 := G4.setS (fr.reverse.map (·.node) ++ [node])
   refine SW.nil ?_
   refine hnew hse _ ⟨it, wr, i.succ, 0⟩ ⟨Z.r1, Z.r2, Z.r3, Z.r4, Z.r5, ?_, fun f hf => ?_⟩ rfl hnode (D.push hse ⟨i.nod, List.mem_map_of_mem hi, hin⟩) ⟨fun y hy => by simp at hy, H⟩
   · simp only [List.reverse_cons, List.map_append, List.map_cons, List.map_nil] at G5 ⊢
     exact G5
   · rcases List.mem_cons.mp hf with rfl | hf
     · exact ⟨i, hi, hin, rfl⟩
     · exact Z.sas f hf
theorem seenW_mono {seen : Str → Bool} {x y : Str} (h : seen y = true) : seenW seen x y = true := by simp [seenW, h]
theorem seenW_self {seen : Str → Bool} {x : Str} : seenW seen x x = true := by simp [seenW]
theorem outer_loop {L' f0 : Addr} {q : Str} {cd : Value} {σ₀ : Addr → Option AObj} {S : Srt} {sA iA eA dA : Addr} {st : St} {fin : List Str} {seen : Str → Bool} {ns : Nat} {v0 : Str} {dn : List Str} {Q : AF → St → Prop} (hS : KS2 p ad) (hB : KB p) (hR : SR ad σ₀ S)
   (hz : S.infos.length ≤ 400) (hcl : ∀ z ∈ S.infos, ∀ y ∈ z.ss, ∃ w ∈ S.infos, w.name = y)
   (Z : FS S σ₀ sA iA eA dA st [] seen ns) (hnode : st.ρ "node" = some (.str v0)) (hw : ∃ w ∈ S.infos, w.name = v0) (D : Dfs (S.infos.map Info.nod) [] fin seen) (hdn : ∀ y ∈ dn, seen y = true) (hns : ns + unW seen (strip (S.infos.map Info.nod)) ≤ S.infos.length)
   (hret : ∀ st' l, l ≠ [] → l.length ≤ 1000 → SR ad st'.σ S → Cyc (S.infos.map Info.nod) → Q (.ret (.lst l)) st')
   (hend : ∀ st' fin' seen' ns', FS S σ₀ sA iA eA dA st' [] seen' ns' → Dfs (S.infos.map Info.nod) [] fin' seen' → (∀ y ∈ dn, seen' y = true) → seen' v0 = true → ns' + unW seen' (strip (S.infos.map Info.nod)) ≤ S.infos.length → Q .next st') :
   XW p n .body (mkEnv (fnScope (methS (nthS P1 6) 8)) L' f0 q cd) fWh Q X st := by
 have hnm : ((S.infos.map Info.nod).map (·.name)).Nodup := by rw [List.map_map]; exact hR.names
 refine XW.while (by decide) (fun m st' => ∃ fr fin seen ns node, m = unW seen (S.infos.map Info.nod) + frW (succOf (S.infos.map Info.nod)) fr ∧ FS S σ₀ sA iA eA dA st' fr seen ns ∧ st'.ρ "node" = some (.str node) ∧ (∃ w ∈ S.infos, w.name = node) ∧ Dfs (S.infos.map Info.nod) fr fin seen ∧ LowC (succOf (S.infos.map Info.nod)) fin node fr ∧ (∀ y ∈ dn, seen y = true) ∧ (seen v0 = true ∨ node = v0) ∧ ns + unW seen (strip (S.infos.map Info.nod)) ≤ S.infos.length ∧ fr.length ≤ ns) ?_ _
   ⟨[], fin, seen, ns, v0, rfl, Z, hnode, hw, D, trivial, hdn, .inr rfl, hns, Nat.zero_le _⟩
 intro m st' zz1; refine xEEEEEAAAAAAAAA zz1 fun fr fin seen ns node zz2 Z hnode hw D H hdn hv0 hns hfr => ?_; subst zz2
 refine TW.plain (EW.bool (truthy_bool (ite_t rfl (SW.cons ?_))))
 refine outer_if (ad := ad) (fin := fin) hS hB hR Z hnode hw D H (by lia) (by lia) (fun st2 l hl hz2 hR2 hc => hret st2 l hl hz2 hR2 hc) (fun hse hh => ?_) fun hse st2 c Z2 hc0 hn2 D2 H2 => ?_
 · skip
   refine SW.cons ?_
   have hv0' : seen v0 = true := by rcases hv0 with h | h; exact h; exact h ▸ hse
   exact inner_loop hB hR (by lia) hcl Z D hh (by lia) (fun st3 fr3 fin3 node3 Z3 hn3 hw3 D3 H3 hl3 hlt => SW.nil ⟨_, by lia, fr3, fin3, seen, ns, node3, rfl, Z3, hn3, hw3, D3, H3, hdn, .inl hv0', hns, by lia⟩) fun st3 fin3 Z3 D3 => hend st3 fin3 seen ns Z3 D3 hdn hv0' hns
 · skip
   refine SW.cons (xEA hw fun w hw1 hw2 => ?_)
   have e1 : unW (seenW seen node) (S.infos.map Info.nod) + (w.ss.length + 1) = unW seen (S.infos.map Info.nod) := by
     have := unW_add (z := w.nod) hnm (List.mem_map_of_mem hw1) (by show seen w.name = false; rw [hw2]; exact hse)
     rw [show w.nod.name = node from hw2] at this
     exact this
   have e2 : unW (seenW seen node) (strip (S.infos.map Info.nod)) + 1 = unW seen (strip (S.infos.map Info.nod)) := by
     have := unW_add (z := ⟨w.name, w.np, []⟩) (g := strip (S.infos.map Info.nod)) (seen := seen) (by rw [strip_names]; exact hnm) (List.mem_map.mpr ⟨w.nod, List.mem_map_of_mem hw1, rfl⟩) (by show seen w.name = false; rw [hw2]; exact hse)
     rw [show (⟨w.name, w.np, []⟩ : Nod).name = node from hw2] at this
     simpa using this
   have e3 : succOf (S.infos.map Info.nod) node = w.ss := hw2 ▸ info_ss hR hw1
   have hv0' : seenW seen node v0 = true := by rcases hv0 with h | h; exact seenW_mono h; exact h ▸ seenW_self
   have e4 : frW (succOf (S.infos.map Info.nod)) (⟨node, c⟩ :: fr) = w.ss.length + frW (succOf (S.infos.map Info.nod)) fr := by
     simp only [frW, e3, hc0]; lia
   refine inner_loop hB hR (by lia) hcl Z2 D2 H2 (by simp; lia) (fun st3 fr3 fin3 node3 Z3 hn3 hw3 D3 H3 hl3 hlt => SW.nil (⟨_, ?_, fr3, fin3, seenW seen node, ns + 1, node3, rfl, Z3, hn3, hw3, D3, H3, fun y hy => seenW_mono (hdn y hy), .inl hv0', by lia, by simp at hl3; lia⟩)) fun st3 fin3 Z3 D3 => hend st3 fin3 _ (ns + 1) Z3 D3 (fun y hy => seenW_mono (hdn y hy)) hv0' (by lia)
   rw [e4] at hlt
   lia
theorem find_body {L' f0 : Addr} {q : Str} {cd : Value} {σ₀ : Addr → Option AObj} {S : Srt} {Q : AF → St → Prop} (hS : KS2 p ad) (hB : KB p) (hR : SR ad σ₀ S)
   (hz : S.infos.length ≤ 400) (hcl : ∀ z ∈ S.infos, ∀ y ∈ z.ss, ∃ w ∈ S.infos, w.name = y)
   (hret : ∀ st' l, l ≠ [] → l.length ≤ 1000 → SR ad st'.σ S → Cyc (S.infos.map Info.nod) → Q (.ret (.lst l)) st')
   (hend : ∀ st', SR ad st'.σ S → ¬ Cyc (S.infos.map Info.nod) → Q (.ret .none) st') :
   SW p n .body (mkEnv (fnScope (methS (nthS P1 6) 8)) L' f0 q cd) (fnBody (methS (nthS P1 6) 8)) Q X ⟨fun y => [("self", AV.ref S.x)].reverse.lookup y, σ₀⟩ := by
 refine xE hR.hdx fun ep1 hdx => (xE hR.hnd fun ep2 hnd => (SW.cons (XW.assign (EW.attr (EW.var rfl (ga_dict hR.hx hdx hS.clsT hS.dictT hS.f1 ag_n2i ?_))))))
 refine SW.cons (XW.assign (EW.listM (LW.nil ⟨fun sA hsA => ?_, by simp⟩)))
 refine SW.cons (XW.assign (EW.listM (LW.nil ⟨fun iA hiA => ?_, by simp⟩)))
 refine SW.cons (XW.assign (EW.callT hB.set bb_set (AW.nil (call_set0 fun eA heA => ?_))))
 refine SW.cons (XW.assign (EW.dict0 fun dA hdA => ?_))
 replace hsA : σ₀ sA = none := hsA
 replace hiA : upd σ₀ sA (.list []) iA = none := hiA
 replace heA : upd (upd σ₀ sA (.list [])) iA (.list []) eA = none := heA
 replace hdA : upd (upd (upd σ₀ sA (.list [])) iA (.list [])) eA (.set (fun zw => false) 0) dA = none := hdA
 have n1 : iA ≠ sA := fun z => by rw [z, upd_same] at hiA; exact xsn hiA
 have n2 : eA ≠ iA := fun z => by rw [z, upd_same] at heA; exact xsn heA
 have n3 : eA ≠ sA := fun z => by rw [z, upd_ne _ _ n1.symm, upd_same] at heA; exact xsn heA
 have n4 : dA ≠ eA := fun z => by rw [z, upd_same] at hdA; exact xsn hdA
 have n5 : dA ≠ iA := fun z => by rw [z, upd_ne _ _ n2.symm, upd_same] at hdA; exact xsn hdA
 have n6 : dA ≠ sA := fun z => by rw [z, upd_ne _ _ n3.symm, upd_ne _ _ n1.symm, upd_same] at hdA; exact xsn hdA
 rw [upd_ne _ _ n1] at hiA
 rw [upd_ne _ _ n2, upd_ne _ _ n3] at heA
 rw [upd_ne _ _ n4, upd_ne _ _ n5, upd_ne _ _ n6] at hdA
 have G0 : DG σ₀ sA iA eA dA (upd (upd (upd (upd σ₀ sA (.list [])) iA (.list [])) eA (.set (fun zw => false) 0)) dA (.dict [] 0)) [] [] (fun zw => false) 0 [] [] := by
   refine ⟨fun a o e => ?_, ?_, ?_, ?_, ⟨0, upd_same ..⟩, ⟨hsA, hiA, heA, hdA⟩, n1.symm, fun c hc => (by cases hc), .nil⟩
   · rw [upd_ne _ _ (ne_fresh e hdA), upd_ne _ _ (ne_fresh e heA), upd_ne _ _ (ne_fresh e hiA), upd_ne _ _ (ne_fresh e hsA)]; exact e
   · rw [upd_ne _ _ n6.symm, upd_ne _ _ n3.symm, upd_ne _ _ n1.symm, upd_same]; rfl
   · rw [upd_ne _ _ n5.symm, upd_ne _ _ n2.symm, upd_same]; rfl
   · rw [upd_ne _ _ n4.symm, upd_same]
 refine SW.cons (XW.for rfl (ItE.of (EW.var rfl ⟨_, _, iter_dict (G0.ext _ _ hnd), ?_⟩)))
 refine ForW.run (fun r st => ∃ dn rest fin seen ns, r = rest.map .str ∧ S.infos.map (·.name) = dn ++ rest ∧ FS S σ₀ sA iA eA dA st [] seen ns ∧ Dfs (S.infos.map Info.nod) [] fin seen ∧ (∀ y ∈ dn, seen y = true) ∧ ns + unW seen (strip (S.infos.map Info.nod)) ≤ S.infos.length)
   ?_ ?_ ?_ _ _ ⟨[], S.infos.map (·.name), [], fun zw => false, 0, by simp [infoD], rfl, ⟨rfl, rfl, rfl, rfl, rfl, G0, fun f hf => by cases hf⟩, ⟨trivial, .nil, fun f hf => (by cases hf), fun y => by simp, fun f hf => by cases hf⟩, fun y hy => (by cases hy), by
     have := unW_all (fun zw => false) (S.infos.map Info.nod)
     simpa using this⟩
 · intro r st zz3; refine xEEEEEAAA zz3 fun dn rest fin seen ns zw zw Z zw => ?_
   exact Z.dg.ext _ _ hnd
 · intro st zz4; refine xEEEEEAAAAA zz4 fun dn rest fin seen ns hr hdr Z D hdn hns => ?_
   cases rest with
   | cons _ _ => exact xnc hr
   | nil =>
     rw [List.append_nil] at hdr
     refine SW.nil ?_
     refine SW.cons (XW.ret (EW.noneC (hend st (hR.ext Z.dg.ext) (topo_acyclic D.topo fun z hz => ?_))))
     refine xEA (List.mem_map.mp hz) fun i hi zz5 => ?_; subst zz5
     have h1 : seen i.name = true := hdn _ (hdr ▸ List.mem_map_of_mem hi)
     rcases (D.seen _).mp h1 with h | h
     · exact h
     · cases h
 · intro v r st zz6; refine xEEEEEAAAAA zz6 fun dn rest fin seen ns hr hdr Z D hdn hns => ?_
   cases rest with
   | nil => exact xcn hr
   | cons t rest =>
     cases hr
     refine AsW.name ?_
     have Z' : FS S σ₀ sA iA eA dA (st.set "node" (.str t)) [] seen ns := ⟨Z.r1, Z.r2, Z.r3, Z.r4, Z.r5, Z.dg, Z.sas⟩
     refine SW.cons (XW.iff (TW.cmp (EW.var rfl (EW.var Z'.r4 (in_set Z'.dg.he (truthy_bool ?_))))))
     cases hse : seen t with
     | true =>
       refine ite_t rfl (SW.cons (XW.cont ?_))
       refine ⟨dn ++ [t], rest, fin, seen, ns, rfl, by rw [hdr]; simp, Z', D, fun y hy => ?_, hns⟩
       rcases List.mem_append.mp hy with hy | hy
       · exact hdn y hy
       · simp only [List.mem_singleton] at hy; subst hy; exact hse
     | false =>
       refine ite_f (by decide) (SW.nil ?_)
       refine SW.cons ?_
       have hwt : ∃ w ∈ S.infos, w.name = t := by
         have : t ∈ S.infos.map (·.name) := by rw [hdr]; simp
         exact xEA (List.mem_map.mp this) fun i hi e => ⟨i, hi, e⟩
       refine outer_loop (v0 := t) (dn := dn) hS hB hR hz hcl Z' rfl hwt D hdn hns (fun st' l hl hz2 hR' hc => hret st' l hl hz2 hR' hc) fun st' fin' seen' ns' Zs Ds hd' hv' hns' => (SW.nil ?_)
       refine ⟨dn ++ [t], rest, fin', seen', ns', rfl, by rw [hdr]; simp, Zs, Ds, fun y hy => ?_, hns'⟩
       rcases List.mem_append.mp hy with hy | hy
       · exact hd' y hy
       · simp only [List.mem_singleton] at hy; subst hy; exact hv'
noncomputable abbrev bmV : List Value := [.type "ValueError", .type "Exception", .type "BaseException", .type "object"]
structure KC (p : PC) (a : Ad) : Prop where
 own : OwnClsQ (Str.ofString "CycleError") a.cyc bmV "ValueError.__new__" p.mg p.base
theorem bindSelf {fd : FuncData} {x : AV} (hs : ∀ v : Value, bindArgs fd ⟨[v], []⟩ = pure [(Str.ofString "self", v)]) : BindA p fd [x] [("self", x)] := by
 refine BindA.plain rfl fun vs hl => ?_
 refine xEE ((by cases vs with | nil => cases hl | cons v r => exact ⟨v, r, rfl⟩) : ∃ v r, vs = v :: r) fun v vs zz1 => ?_; subst zz1
 cases vs with
 | cons _ _ => simp at hl
 | nil => exact hs v
theorem callFind {σ : Addr → Option AObj} {ρ : String → Option AV} {S : Srt} (hS : KS2 p ad) (hB : KB p) (hb : b ≠ .handler) (hR : SR ad σ S)
   (hz : S.infos.length ≤ 400) (hcl : ∀ z ∈ S.infos, ∀ y ∈ z.ss, ∃ w ∈ S.infos, w.name = y)
   (hret : ∀ σ' l, l ≠ [] → l.length ≤ 1000 → SR ad σ' S → Cyc (S.infos.map Info.nod) → Q (.lst l) ⟨ρ, σ'⟩)
   (hend : ∀ σ', SR ad σ' S → ¬ Cyc (S.infos.map Info.nod) → Q .none ⟨ρ, σ'⟩) : CC p (n + 1) b env (.ref ad.find) [.ref S.x] Q X ⟨ρ, σ⟩ := by
 refine xEE hS.fFind.ex fun fo fd F => ?_
 refine callFnC F (bindSelf fun v => ?_) hb (by intro y hy; simp only [List.mem_cons, List.not_mem_nil, or_false] at hy; rcases hy with rfl; rfl) (by decide +kernel) rfl rfl rfl fun L' q cd => ?_
 · exact b_any F.params F.dflt F.kwd fun _ => rfl
 · exact find_body hS hB hR hz hcl (fun st' l hl hz2 hR' hc => hret _ l hl hz2 hR' hc) fun st' hR' hc => hend _ hR' hc
theorem tests_nil {Q : Bool → St → Prop} (h : Q true st) : TestsW p n env [] Q st := h
theorem ElemsW.of {E : AV → Option AV → Prop} {α : Type} : ∀ (l : List α) (v : α → AV) (r : α → Option AV), (∀ a ∈ l, E (v a) (r a)) → ElemsW E (l.map v) (l.map r)
 | [], _, _, _ => .nil
 | a :: l, v, r, h => .cons (h a (.head _)) (ElemsW.of l v r fun x hx => h x (.tail _ hx))
noncomputable def readyOf (l : List Nod) : List Str := (l.filter fun z => z.np = 0).map (·.name)
theorem rs_ready (l : List Info) : (l.map fun i => if i.np = 0 then some (AV.str i.name) else none).filterMap id = (readyOf (l.map Info.nod)).map AV.str := by
 induction l with
 | nil => rfl
 | cons i l ih =>
   unfold readyOf at ih ⊢
   simp only [List.map_cons]
   by_cases h : i.np = 0
   · simp only [h, if_true, List.filterMap_cons, id]
     rw [ih]
     simp [Info.nod, h]
   · simp only [h, if_false, List.filterMap_cons, id]
     rw [ih]
     simp [Info.nod, h]
theorem aset_ready {nd : Addr} {r r' : AV} {po nf : Int} : aset (attrs nd r po nf) (Str.ofString "_ready_nodes") r' = attrs nd r' po nf := rfl
theorem SR.attrs {σ : Addr → Option AObj} {S : Srt} (hR : SR ad σ S) (r : Option (Addr × List Str)) (po nf : Int) (ep : Nat) (hr : ∀ a l, r = some (a, l) → σ a = some (.list (l.map .str)) ∧ ∀ i ∈ S.infos, i.succ ≠ a) :
   SR ad (upd σ S.dx (.dict (attrs S.nd (readyA r) po nf) ep)) { S with ready := r, po := po, nf := nf } := by
 refine xE hR.hdx fun ep1 hdx => (xE hR.hnd fun ep2 hnd => ?_)
 have k : ∀ a o, σ a = some o → (∀ es ep, o ≠ .dict es ep) → upd σ S.dx (.dict (Mine.attrs S.nd (readyA r) po nf) ep) a = some o := fun a o e h => by
   rw [upd_ne _ _ (ne_of e hdx (h _ _))]; exact e
 refine ⟨k _ _ hR.hx (by intro _ _ z; exact xao z rfl), ⟨ep, upd_same ..⟩, ⟨ep2, ?_⟩, fun i hi => ⟨k _ _ (hR.hin i hi).1 (by intro _ _ z; exact xao z rfl), k _ _ (hR.hin i hi).2 (by intro _ _ z; exact xao z rfl)⟩, fun a l e => ⟨k _ _ (hr a l e).1 (by intro _ _ z; exact xao z rfl), (hr a l e).2⟩, hR.names, hR.addrs, hR.succs, hR.ne⟩
 rw [upd_ne _ _ hR.ne.symm]; exact hnd
theorem SR.rlist {σ : Addr → Option AObj} {S : Srt} (hR : SR ad σ S) {D : Addr} {l : List Str} (hr : S.ready = some (D, l)) (l' : List Str) : SR ad (upd σ D (.list (l'.map .str))) { S with ready := some (D, l') } := by
 refine xE hR.hdx fun ep1 hdx => (xE hR.hnd fun ep2 hnd => (xA (hR.hrd D l hr) fun h1 h2 => ?_))
 have k : ∀ a o, σ a = some o → (∀ es, o ≠ .list es) → upd σ D (.list (l'.map .str)) a = some o := fun a o e h => by
   rw [upd_ne _ _ (ne_of e h1 (h _))]; exact e
 refine ⟨k _ _ hR.hx (by intro _ z; exact xao z rfl), ⟨ep1, ?_⟩, ⟨ep2, k _ _ hnd (by intro _ z; exact xao z rfl)⟩, fun i hi => ⟨k _ _ (hR.hin i hi).1 (by intro _ z; exact xao z rfl), ?_⟩, fun a l'' e => ?_, hR.names, hR.addrs, hR.succs, hR.ne⟩
 · rw [hr] at hdx; exact k _ _ hdx (by intro _ z; exact xao z rfl)
 · rw [upd_ne _ _ (h2 i hi)]; exact (hR.hin i hi).2
 · cases Option.some.inj e; exact ⟨upd_same .., h2⟩
theorem prepare_body {L' f : Addr} {q : Str} {cd : Value} {σ : Addr → Option AObj} {S : Srt} {Q : AF → St → Prop} (hS : KS2 p ad) (hC : KC p ad) (hB : KB p) (hR : SR ad σ S) (hr : S.ready = none)
   (hz : S.infos.length ≤ 400) (hcl : ∀ z ∈ S.infos, ∀ y ∈ z.ss, ∃ w ∈ S.infos, w.name = y)
   (hok : ∀ st' D, SR ad st'.σ { S with ready := some (D, readyOf (S.infos.map Info.nod)) } → ¬ Cyc (S.infos.map Info.nod) → Q .next st')
   (hcy : ∀ st' D, SR ad st'.σ { S with ready := some (D, readyOf (S.infos.map Info.nod)) } → Cyc (S.infos.map Info.nod) → X (.ref ad.cyc) st') :
   SW p (n + 1) .body (mkEnv (fnScope (methS (nthS P1 6) 3)) L' f q cd) (fnBody (methS (nthS P1 6) 3)) Q X ⟨fun y => [("self", AV.ref S.x)].reverse.lookup y, σ⟩ := by
 refine xE hR.hdx fun ep1 hdx => (xE hR.hnd fun ep2 hnd => ?_)
 repeat (first | refine SW.cons ?_ | refine XW.assign ?_ | refine XW.iff ?_ | refine XW.ret ?_ | refine XW.expr ?_ | refine XW.assignAttr ?_ | refine XW.augAttr ?_ | refine TW.cmp ?_ | refine TW.not ?_ | refine EW.var (by first | exact rfl | assumption) ?_ | refine EW.int ?_ | refine EW.str ?_ | refine EW.bool ?_ | refine EW.noneC ?_ | refine EW.attr ?_ | refine EW.callM ?_ | refine EW.binop ?_ | refine EW.unop ?_ | refine EW.tup ?_ | refine EW.list ?_ | refine EW.cut ?_ | refine EW.sub ?_ | refine OW.no ?_ | refine OW.yes ?_ | refine LW.nil ?_ | refine LW.cons ?_ | refine AW.cons ?_ | refine AW.nil ?_ | refine truthy_bool ?_ | refine AsW.name ?_ | refine AsW.tup (by decide) ?_ | dsimp only)
 refine ga_dict hR.hx hdx hS.clsT hS.dictT hS.f2 ag_ready ?_
 rw [hr]
 refine EW.noneC (isnot_none_f (truthy_bool (ite_f (by decide) (SW.nil ?_))))
 refine SW.cons (XW.assignAttr (EW.lcompM (cl := []) rfl (ItE.of ?_)))
 · refine EW.callM (EW.attr (EW.var rfl (ga_dict hR.hx hdx hS.clsT hS.dictT hS.f1 ag_n2i (MW.builtin (recv_dict hnd) F.plainAttrs_dict F.slot_dict_values F.type_dict_values (AW.nil (call_values hnd fun w hw => ?_))))))
   replace hw : σ w = none := hw
   have k1 : ∀ a o, σ a = some o → upd σ w (.raw (viewObj S.nd)) a = some o := fun a o e => by rw [upd_ne _ _ (ne_fresh e hw)]; exact e
   refine ⟨_, _, iter_values (upd_same ..) (k1 _ _ hnd), fun σ' hs => hs _ _ (k1 _ _ hnd), by simp [infoD]; lia, S.infos.map (fun i => if i.np = 0 then some (.str i.name) else none), fun C => ?_, fun D hD => ?_⟩
   · rw [show (infoD S.infos).map (fun x => x.2) = S.infos.map (fun i => AV.ref i.addr) from by simp [infoD]]
     refine ElemsW.of S.infos _ _ fun i him => ?_
     intro st0 h0
     have hi := h0 _ _ (k1 _ _ (hR.hin i him).1)
     refine AsW.name (TW.cmp (EW.attr (EW.var rfl (ga_slot hi hS.clsN hS.sPred rfl (EW.int (eq_int (truthy_bool ?_)))))))
     by_cases h0 : i.np = 0
     · exact ite_t (by simp [h0]) (tests_nil (ite_t rfl (EW.attr (EW.var rfl (ga_slot hi hS.clsN hS.sNode rfl ⟨by rw [if_pos h0], rfl⟩)))))
     · refine ite_f (by simp [h0]) ?_
       simp only [Bool.false_eq_true, if_false]
       exact ⟨by rw [if_neg h0], rfl⟩
   · rw [rs_ready]
     replace hD : upd σ w (.raw (viewObj S.nd)) D = none := hD
     have hR1 := hR.ext k1
     have k2 : ∀ a o, upd σ w (.raw (viewObj S.nd)) a = some o → upd (upd σ w (.raw (viewObj S.nd))) D (.list ((readyOf (S.infos.map Info.nod)).map .str)) a = some o := fun a o e => by rw [upd_ne _ _ (ne_fresh e hD)]; exact e
     have hR2 := hR1.ext k2
     refine xE hR2.hdx fun ep3 hdx2 => (EW.var rfl (sa_dict hR2.hx hdx2 hS.clsT hS.dictT hS.t2 (fun ep4 => ?_) (by simp [attrs])))
     rw [aset_ready]
     have hR3 := hR2.attrs (some (D, readyOf (S.infos.map Info.nod))) S.po S.nf ep4 fun a l e => by
       cases Option.some.inj e
       exact ⟨upd_same .., fun i hi z => by have := (hR1.hin i hi).2; rw [z, hD] at this; exact xns this⟩
     refine xE hR3.hdx fun ep5 hdx3 => ?_
     refine SW.cons (XW.assign (EW.callM (EW.var rfl (MW.own hR3.hx hdx3 hS.clsT hS.mFind rfl (AW.nil ?_)))))
     refine CC.cw (callFind (S := { S with ready := some (D, readyOf (S.infos.map Info.nod)) }) hS hB (by decide) hR3 hz hcl (fun σ' l hl hlz hR4 hc => ?_) fun σ' hR4 hc => ?_)
     · skip
       refine SW.cons (XW.iff (TW.plain (EW.var rfl (truthy_list (.inl rfl) (ite_t (by cases l with | nil => exact (hl rfl).elim | cons _ _ => rfl) (SW.cons (XW.raiseK hC.own.own F.excBase_ValueError (by decide) hS.nsC (AW.cons (LW.cons (EW.fstr1 (EW.str (LW.cons (EW.var rfl ?_))))))))) (by lia)))))
       refine LW.nil ⟨hcy _ D hR4 hc, by simp⟩
     · skip
       exact SW.cons (XW.iff (TW.plain (EW.var rfl (truthy_none (ite_f (by decide) (SW.nil (SW.nil (hok _ D hR4 hc))))))))
theorem bindOf {f : Addr} {fo : Obj} {fd : FuncData} {x : AV} {s : Stmt} (F : FnOK p f (fnArgs s) (fnBody s) (fnScope s) .none fo fd) (h : ∀ fd : FuncData, fd.params = fnArgs s → fd.defaults = .none → fd.kwdefaults = .none → ∀ v : Value, bindArgs fd ⟨[v], []⟩ = pure [(Str.ofString "self", v)]) : BindA p fd [x] [("self", x)] :=
 bindSelf (h fd F.params F.dflt F.kwd)
theorem bindPrep (fd : FuncData) (h1 : fd.params = fnArgs (methS (nthS P1 6) 3)) (h2 : fd.defaults = .none) (h3 : fd.kwdefaults = .none) (v : Value) : bindArgs fd ⟨[v], []⟩ = pure [(Str.ofString "self", v)] := b_any h1 h2 h3 fun _ => rfl
theorem bindReady (fd : FuncData) (h1 : fd.params = fnArgs (methS (nthS P1 6) 4)) (h2 : fd.defaults = .none) (h3 : fd.kwdefaults = .none) (v : Value) : bindArgs fd ⟨[v], []⟩ = pure [(Str.ofString "self", v)] := b_any h1 h2 h3 fun _ => rfl
theorem callPrep {σ : Addr → Option AObj} {ρ : String → Option AV} {S : Srt} (hS : KS2 p ad) (hC : KC p ad) (hB : KB p) (hb : b ≠ .handler) (hR : SR ad σ S) (hr : S.ready = none)
   (hz : S.infos.length ≤ 400) (hcl : ∀ z ∈ S.infos, ∀ y ∈ z.ss, ∃ w ∈ S.infos, w.name = y)
   (hok : ∀ σ' D, SR ad σ' { S with ready := some (D, readyOf (S.infos.map Info.nod)) } → ¬ Cyc (S.infos.map Info.nod) → Q .none ⟨ρ, σ'⟩)
   (hcy : ∀ σ' D, SR ad σ' { S with ready := some (D, readyOf (S.infos.map Info.nod)) } → Cyc (S.infos.map Info.nod) → X (.ref ad.cyc) ⟨ρ, σ'⟩) : CC p (n + 2) b env (.ref ad.prep) [.ref S.x] Q X ⟨ρ, σ⟩ := by
 exact xEE hS.fPrep.ex fun fo fd F => (callFnC F (bindOf F bindPrep) hb (by intro y hy; simp only [List.mem_cons, List.not_mem_nil, or_false] at hy; rcases hy with rfl; rfl) (by decide +kernel) rfl rfl rfl fun L' q cd => (prepare_body hS hC hB hR hr hz hcl (fun st' D hR' hc => hok _ D hR' hc) fun st' D hR' hc => hcy _ D hR' hc))
noncomputable def gPut (g : List Nod) (x : Str) (k : Int) : List Nod := g.map fun z => if z.name = x then { z with np := k } else z
noncomputable def gOut (g : List Nod) (l : List Str) : List Nod := l.foldl (fun g x => gPut g x (-1)) g
theorem gPut_set {l : List Info} (x : Str) (k : Int) : gPut (l.map Info.nod) x k = (setNp l x k).map Info.nod := by
 unfold gPut setNp
 simp only [List.map_map]
 refine List.map_congr_left fun j hj => ?_
 simp only [Function.comp]
 by_cases h : j.name = x
 · rw [if_pos h, if_pos (show j.nod.name = x from h)]; rfl
 · rw [if_neg h, if_neg (show ¬ j.nod.name = x from h)]
theorem setNp_mem {l : List Info} {x y : Str} {k : Int} (h : ∃ w ∈ l, w.name = y) : ∃ w ∈ setNp l x k, w.name = y := by
 have : y ∈ (setNp l x k).map Info.name := by
   rw [(setNp_name l x k).1]
   exact xEA h fun w hw e => (e ▸ List.mem_map_of_mem hw)
 exact xEA (List.mem_map.mp this) fun w hw e => ⟨w, hw, e⟩
theorem ag_po {nd : Addr} {r : AV} {po nf : Int} : aget (attrs nd r po nf) (Str.ofString "_npassedout") = some (.int po) := rfl
theorem ag_nf {nd : Addr} {r : AV} {po nf : Int} : aget (attrs nd r po nf) (Str.ofString "_nfinished") = some (.int nf) := rfl
theorem aset_po {nd : Addr} {r : AV} {po nf k : Int} : aset (attrs nd r po nf) (Str.ofString "_npassedout") (.int k) = attrs nd r k nf := rfl
theorem aset_nf {nd : Addr} {r : AV} {po nf k : Int} : aset (attrs nd r po nf) (Str.ofString "_nfinished") (.int k) = attrs nd r po k := rfl
theorem ready_body {L' f : Addr} {q : Str} {cd : Value} {σ : Addr → Option AObj} {S : Srt} {D : Addr} {l : List Str} {Q : AF → St → Prop} (hS : KS2 p ad) (hB : KB p) (hR : SR ad σ S) (hr : S.ready = some (D, l))
   (hz : l.length ≤ 1000) (hin : ∀ y ∈ l, ∃ w ∈ S.infos, w.name = y)
   (h : ∀ st' infos', SR ad st'.σ { S with infos := infos', ready := some (D, []), po := S.po + l.length } → infos'.map Info.nod = gOut (S.infos.map Info.nod) l → Q (.ret (.tup (l.map .str))) st') :
   SW p n .body (mkEnv (fnScope (methS (nthS P1 6) 4)) L' f q cd) (fnBody (methS (nthS P1 6) 4)) Q X ⟨fun y => [("self", AV.ref S.x)].reverse.lookup y, σ⟩ := by
 refine xE hR.hdx fun ep1 hdx => (xE hR.hnd fun ep2 hnd => (xE hS.out fun t0 hout => ?_))
 rw [hr] at hdx
 repeat (first | refine SW.cons ?_ | refine XW.assign ?_ | refine XW.iff ?_ | refine XW.ret ?_ | refine XW.expr ?_ | refine XW.assignAttr ?_ | refine XW.augAttr ?_ | refine TW.cmp ?_ | refine TW.not ?_ | refine EW.var (by first | exact rfl | assumption) ?_ | refine EW.int ?_ | refine EW.str ?_ | refine EW.bool ?_ | refine EW.noneC ?_ | refine EW.attr ?_ | refine EW.callM ?_ | refine EW.binop ?_ | refine EW.unop ?_ | refine EW.tup ?_ | refine EW.list ?_ | refine EW.cut ?_ | refine EW.sub ?_ | refine OW.no ?_ | refine OW.yes ?_ | refine LW.nil ?_ | refine LW.cons ?_ | refine AW.cons ?_ | refine AW.nil ?_ | refine truthy_bool ?_ | refine AsW.name ?_ | refine AsW.tup (by decide) ?_ | dsimp only)
 refine ga_dict hR.hx hdx hS.clsT hS.dictT hS.f2 ag_ready (EW.noneC (is_none_f (by intro z; exact xav z rfl) (truthy_bool (ite_f (by decide) (SW.nil ?_)))))
 refine SW.cons (XW.assign (EW.callT hB.tuple bb_tuple (AW.cons (LW.cons (EW.attr (EW.var rfl (ga_dict hR.hx hdx hS.clsT hS.dictT hS.f2 ag_ready (LW.nil (call_tuple (.inr ⟨D, rfl, (hR.hrd D l hr).1⟩) ?_ (by simp; lia))))))))))
 refine SW.cons (XW.assign (EW.attr (EW.var rfl (ga_dict hR.hx hdx hS.clsT hS.dictT hS.f1 ag_n2i ?_))))
 refine SW.cons (XW.for rfl (ItE.of (EW.var rfl ⟨_, _, iter_tup, ?_⟩)))
 refine ForW.run (fun r st' => ∃ dn rest infos', r = rest.map .str ∧ l = dn ++ rest ∧ st'.ρ "self" = some (.ref S.x) ∧ st'.ρ "n2i" = some (.ref S.nd) ∧ st'.ρ "result" = some (.tup (l.map .str)) ∧ SR ad st'.σ { S with infos := infos' } ∧ infos'.map Info.nod = gOut (S.infos.map Info.nod) dn ∧ (∀ y ∈ l, ∃ w ∈ infos', w.name = y))
   (fun zw zw zw => trivial) ?_ ?_ _ _ ⟨[], l, S.infos, rfl, rfl, rfl, rfl, rfl, hR, rfl, hin⟩
 · intro st' zz1; refine xEEEAAAAAAA zz1 fun dn rest infos' hr' hl h1 h2 h3 hR' hg' hin' => ?_
   cases rest with
   | cons _ _ => exact xnc hr'
   | nil =>
     rw [List.append_nil] at hl
     subst hl
     refine xE hR'.hdx fun ep3 hdx3 => ?_
     have hl3 := (hR'.hrd D l hr).1
     replace hdx3 : st'.σ S.dx = some (.dict (attrs S.nd (readyA S.ready) S.po S.nf) ep3) := hdx3
     rw [hr] at hdx3
     refine SW.nil ?_
     refine SW.cons (XW.expr (EW.callM (EW.attr (EW.var h1 (ga_dict hR'.hx hdx3 hS.clsT hS.dictT hS.f2 ag_ready (MW.builtin (recv_list (.inr ⟨D, rfl, hl3⟩)) F.plainAttrs_list F.slot_list_clear F.type_list_clear (AW.nil (call_clear hl3 ?_ (by simp; lia)))))))))
     have hR4 := hR'.rlist hr []
     refine xE hR4.hdx fun ep4 hdx4 => ?_
     refine SW.cons (XW.augAttr (EW.var h1 (ga_dict hR4.hx hdx4 hS.clsT hS.dictT hS.f3 ag_po (EW.callB hB.len bb_len (AW.cons (LW.cons (EW.var h3 (LW.nil (call_lenT ?_ (by simp; lia))))))))))
     rw [List.length_map]
     refine iadd_int (sa_dict hR4.hx hdx4 hS.clsT hS.dictT hS.t3 (fun ep5 => ?_) (by simp [attrs]))
     rw [aset_po]
     have hR5 := hR4.attrs (some (D, [])) (S.po + l.length) S.nf ep5 fun a l' e => by
       cases Option.some.inj e
       exact hR4.hrd D [] rfl
     exact SW.cons (XW.ret (EW.var h3 (h _ infos' hR5 hg')))
 · intro v r st' zz2; refine xEEEAAAAAAA zz2 fun dn rest infos' hr' hl h1 h2 h3 hR' hg' hin' => ?_
   cases rest with
   | nil => exact xcn hr'
   | cons t rest =>
     cases hr'
     refine xEA (hin' t (by rw [hl]; simp)) fun i hi hn => (xE hR'.hnd fun ep3 hnd3 => (xA (hR'.hin i hi) fun e1 e2 => (AsW.name (SW.cons (XW.assignAttr (EW.glob hout (.int (-1) t0) (EW.sub (EW.var h2 (EW.var rfl (idx_dict hnd3 (aget_info.1 i hi hn hR'.names) (sa_slot e1 hS.clsN hS.sPred ?_)))))))))))
     have hR4 := hR'.np hi (-1)
     refine SW.nil ?_
     refine ⟨dn ++ [t], rest, setNp infos' i.name (-1), rfl, by rw [hl]; simp, h1, h2, h3, hR4, ?_, fun y hy => setNp_mem (hin' y hy)⟩
     rw [← gPut_set, hg', hn]
     unfold gOut
     rw [List.foldl_append]; rfl
theorem callReady {σ : Addr → Option AObj} {ρ : String → Option AV} {S : Srt} {D : Addr} {l : List Str} (hS : KS2 p ad) (hB : KB p) (hb : b ≠ .handler) (hR : SR ad σ S) (hr : S.ready = some (D, l))
   (hz : l.length ≤ 1000) (hin : ∀ y ∈ l, ∃ w ∈ S.infos, w.name = y)
   (h : ∀ σ' infos', SR ad σ' { S with infos := infos', ready := some (D, []), po := S.po + l.length } → infos'.map Info.nod = gOut (S.infos.map Info.nod) l → Q (.tup (l.map .str)) ⟨ρ, σ'⟩) : CC p (n + 1) b env (.ref ad.ready) [.ref S.x] Q X ⟨ρ, σ⟩ := by
 exact xEE hS.fReady.ex fun fo fd F => (callFnC F (bindOf F bindReady) hb (by intro y hy; simp only [List.mem_cons, List.not_mem_nil, or_false] at hy; rcases hy with rfl; rfl) (by decide +kernel) rfl rfl rfl fun L' q cd => (ready_body hS hB hR hr hz hin fun st' infos' hR' hg => h _ infos' hR' hg))
noncomputable def npOf (g : List Nod) (x : Str) : Int := ((g.find? fun y => y.name = x).map (·.np)).getD 0
theorem npOf_eq {g : List Nod} (hn : (g.map (·.name)).Nodup) {z : Nod} (hz : z ∈ g) : npOf g z.name = z.np := by
 unfold npOf
 cases e : g.find? fun y => y.name = z.name with
 | none => have := List.find?_eq_none.mp e z hz; simp at this
 | some w =>
   have h1 := List.mem_of_find?_eq_some e
   have h2 : w.name = z.name := by simpa using List.find?_some e
   rw [inj_of_nodup hn h1 hz h2]; rfl
noncomputable def decOne (a : List Nod × List Str) (s : Str) : List Nod × List Str := (gMore a.1 s (-1), if npOf (gMore a.1 s (-1)) s = 0 then a.2 ++ [s] else a.2)
noncomputable def gDone (g : List Nod) (rd : List Str) (x : Str) : List Nod × List Str := (succOf g x).foldl decOne (gPut g x (-2), rd)
noncomputable def dF : List Stmt := fnBody (methS (nthS P1 6) 7)
noncomputable def dFor : Stmt := dF.getD 2 dumS
theorem decOne_len (ss : List Str) : ∀ (a : List Nod × List Str), (ss.foldl decOne a).2.length ≤ a.2.length + ss.length := by
 induction ss with
 | nil => intro a; exact Nat.le_refl _
 | cons s ss ih =>
   intro a
   have h1 := ih (decOne a s)
   have h2 : (decOne a s).2.length ≤ a.2.length + 1 := by
     unfold decOne; dsimp only; split <;> simp
   simp only [List.foldl_cons, List.length_cons]
   lia
theorem done_one {L' f : Addr} {q : Str} {cd : Value} {st : St} {S : Srt} {D : Addr} {l : List Str} {i : Info} {Q : AF → St → Prop} (hS : KS2 p ad) (hB : KB p) (hR : SR ad st.σ S) (hr : S.ready = some (D, l))
   (h1 : st.ρ "self" = some (.ref S.x)) (h2 : st.ρ "n2i" = some (.ref S.nd)) (h3 : st.ρ "node" = some (.str i.name)) (hi : i ∈ S.infos) (hnp : i.np = -1) (hz : l.length + i.ss.length ≤ 1000) (hcl : ∀ y ∈ i.ss, ∃ w ∈ S.infos, w.name = y)
   (h : ∀ st' infos', (∀ y, y ≠ "nodeinfo" → y ≠ "stat" → y ≠ "successor" → y ≠ "successor_info" → st'.ρ y = st.ρ y) →
     SR ad st'.σ { S with infos := infos', ready := some (D, (gDone (S.infos.map Info.nod) l i.name).2), nf := S.nf + 1 } → infos'.map Info.nod = (gDone (S.infos.map Info.nod) l i.name).1 → Q .next st') :
   SW p n .body (mkEnv (fnScope (methS (nthS P1 6) 7)) L' f q cd) (forBody dFor) Q X st := by
 refine xE hR.hdx fun ep1 hdx => (xE hR.hnd fun ep2 hnd => (xE hS.out fun t0 hout => (xE hS.dn fun t1 hdn => (xA (hR.hin i hi) fun e1 e2 => (SW.cons (XW.iff (TW.cmp (EW.named (EW.callM (EW.var h2 (MW.builtin (recv_dict hnd) F.plainAttrs_dict F.slot_dict_get F.type_dict_get (AW.cons (LW.cons (EW.var h3 (LW.nil (call_dget hnd ?_))))))))))))))))
 rw [aget_info.1 i hi rfl hR.names]
 refine AsW.name (EW.noneC (is_none_f (by intro z; exact xav z rfl) (truthy_bool (ite_f (by decide) (SW.nil ?_)))))
 refine SW.cons (XW.assign (EW.attr (EW.var rfl (ga_slot e1 hS.clsN hS.sPred rfl ?_))))
 refine SW.cons (XW.iff (TW.cmp (EW.var rfl (EW.glob hout (.int (-1) t0) (ne_int (truthy_bool (ite_f (by rw [hnp]; decide) (SW.nil ?_))))))))
 refine SW.cons (XW.assignAttr (EW.glob hdn (.int (-2) t1) (EW.var rfl (sa_slot e1 hS.clsN hS.sPred ?_))))
 have hR1 := hR.np hi (-2)
 refine SW.cons (XW.for rfl (ItE.of (EW.attr (EW.var rfl ?_))))
 have hl1 : upd st.σ i.addr (infoO ad { i with np := -2 }) i.succ = some (.list (i.ss.map .str)) :=
   (hR1.hin { i with np := -2 } (List.mem_map.mpr ⟨i, hi, if_pos rfl⟩)).2
 refine ga_slot (upd_same ..) hS.clsN hS.sSucc rfl ⟨_, _, iter_list (.inr ⟨i.succ, rfl, hl1⟩), ?_⟩
 have hsO : succOf (S.infos.map Info.nod) i.name = i.ss := info_ss hR hi
 refine ForW.run (fun r st' => ∃ dn rest infos' rd, r = rest.map .str ∧ i.ss = dn ++ rest ∧ (∀ y, y ≠ "nodeinfo" → y ≠ "stat" → y ≠ "successor" → y ≠ "successor_info" → st'.ρ y = st.ρ y) ∧ SR ad st'.σ { S with infos := infos', ready := some (D, rd) } ∧ (infos'.map Info.nod, rd) = dn.foldl decOne (gPut (S.infos.map Info.nod) i.name (-2), l)
     ∧ (∀ y ∈ i.ss, ∃ w ∈ infos', w.name = y) ∧ ∃ j ∈ infos', j.succ = i.succ ∧ j.ss = i.ss)
   ?_ ?_ ?_ _ _ ⟨[], i.ss, setNp S.infos i.name (-2), l, rfl, rfl, fun y y1 y2 zw zw => ?_, ?_, ?_, fun y hy => setNp_mem (hcl y hy), { i with np := -2 }, List.mem_map.mpr ⟨i, hi, if_pos rfl⟩, rfl, rfl⟩
 · intro r st' zz1; refine xEEEEAAAAAAEAA zz1 fun dn rest infos' rd zw zw zw hR' zw zw j hj hj1 hj2 => ?_
   exact .inr ⟨_, rfl, hj1 ▸ hj2 ▸ (hR'.hin j hj).2⟩
 · intro st' zz2; refine xEEEEAAAAAAEAA zz2 fun dn rest infos' rd hr' hss hρ hR' hg' hin' j hj hj1 hj2 => ?_
   cases rest with
   | cons _ _ => exact xnc hr'
   | nil =>
     rw [List.append_nil] at hss
     refine xE hR'.hdx fun ep3 hdx3 => ?_
     have hs1 : st'.ρ "self" = some (.ref S.x) := (hρ _ (by decide) (by decide) (by decide) (by decide)).trans h1
     refine SW.nil ?_
     refine SW.cons (XW.augAttr (EW.var hs1 (ga_dict hR'.hx hdx3 hS.clsT hS.dictT hS.f4 ag_nf (EW.int (iadd_int (sa_dict hR'.hx hdx3 hS.clsT hS.dictT hS.t4 (fun ep4 => ?_) (by simp [attrs])))))))
     rw [aset_nf]
     have hR4 := hR'.attrs (some (D, rd)) S.po (S.nf + 1) ep4 fun a l' e => by
       cases Option.some.inj e
       exact hR'.hrd D rd rfl
     refine SW.nil ?_
     have hgD : gDone (S.infos.map Info.nod) l i.name = (infos'.map Info.nod, rd) := by
       unfold gDone
       rw [hsO, hg', ← hss]
     refine h _ infos' hρ ?_ (by rw [hgD])
     rw [hgD]
     exact hR4
 · intro v r st' zz3; refine xEEEEAAAAAAEAA zz3 fun dn rest infos' rd hr' hss hρ hR' hg' hin' j hj hj1 hj2 => ?_
   cases rest with
   | nil => exact xcn hr'
   | cons t rest =>
     cases hr'
     have hlen : i.ss.length = dn.length + 1 + rest.length := by rw [hss]; simp; lia
     have hs1 : st'.ρ "self" = some (.ref S.x) := (hρ _ (by decide) (by decide) (by decide) (by decide)).trans h1
     have hs2 : st'.ρ "n2i" = some (.ref S.nd) := (hρ _ (by decide) (by decide) (by decide) (by decide)).trans h2
     refine xEA (hin' t (by rw [hss]; simp)) fun w hw hwn => (xE hR'.hnd fun ep3 hnd3 => (xA (hR'.hin w hw) fun e3 e4 => ?_))
     have hrl : rd.length ≤ l.length + dn.length := by
       have := decOne_len dn (gPut (S.infos.map Info.nod) i.name (-2), l)
       rw [← hg'] at this
       exact this
     refine AsW.name (SW.cons (XW.assign (EW.sub (EW.var hs2 (EW.var rfl (idx_dict hnd3 (aget_info.1 w hw hwn hR'.names) ?_))))))
     refine SW.cons (XW.augAttr (EW.var rfl (ga_slot e3 hS.clsN hS.sPred rfl (EW.int (isub_int (sa_slot e3 hS.clsN hS.sPred ?_))))))
     have hR4 := hR'.np hw (w.np - 1)
     have hg4 : gMore (infos'.map Info.nod) t (-1) = (setNp infos' w.name (w.np - 1)).map Info.nod := by
       rw [← hwn]; exact gMore_set hw hR'.names (-1)
     have hnp4 : npOf ((setNp infos' w.name (w.np - 1)).map Info.nod) t = w.np - 1 := by
       have hm : ({ w with np := w.np - 1 } : Info) ∈ setNp infos' w.name (w.np - 1) := List.mem_map.mpr ⟨w, hw, if_pos rfl⟩
       have := npOf_eq (g := (setNp infos' w.name (w.np - 1)).map Info.nod) (by rw [List.map_map]; exact hR4.names) (z := ({ w with np := w.np - 1 } : Info).nod) (List.mem_map_of_mem hm)
       rw [← hwn]; exact this
     have hcl4 : ∀ y ∈ i.ss, ∃ w' ∈ setNp infos' w.name (w.np - 1), w'.name = y := fun y hy => setNp_mem (hin' y hy)
     have hj4 : ∃ j' ∈ setNp infos' w.name (w.np - 1), j'.succ = i.succ ∧ j'.ss = i.ss := by
       by_cases hjn : j.name = w.name
       · exact ⟨{ j with np := w.np - 1 }, List.mem_map.mpr ⟨j, hj, if_pos hjn⟩, hj1, hj2⟩
       · exact ⟨j, List.mem_map.mpr ⟨j, hj, if_neg hjn⟩, hj1, hj2⟩
     refine SW.cons (XW.iff (TW.cmp (EW.attr (EW.var rfl (ga_slot (upd_same ..) hS.clsN hS.sPred rfl (EW.int (eq_int (truthy_bool ?_))))))))
     have hstep : ∀ rd', rd' = (if w.np - 1 = 0 then rd ++ [t] else rd) → ((setNp infos' w.name (w.np - 1)).map Info.nod, rd') = (dn ++ [t]).foldl decOne (gPut (S.infos.map Info.nod) i.name (-2), l) := fun rd' e => by
       rw [List.foldl_append, ← hg']
       show _ = decOne (infos'.map Info.nod, rd) t
       unfold decOne
       rw [hg4, hnp4, e]
     by_cases h0 : w.np - 1 = 0
     · refine ite_t (by simp [h0]) (xE hR4.hdx fun ep5 hdx5 => ?_)
       have hl5 := (hR4.hrd D rd rfl).1
       refine SW.cons (XW.append (EW.attr (EW.var hs1 (ga_dict hR4.hx hdx5 hS.clsT hS.dictT hS.f2 ag_ready ⟨D, rfl, (EW.var rfl ?_), _, hl5⟩))))
       refine ⟨_, hl5, by simp; lia, ?_⟩
       rw [mapS]
       have hR6 := hR4.rlist (D := D) (l := rd) rfl (rd ++ [t])
       refine SW.nil (SW.nil ?_)
       refine ⟨dn ++ [t], rest, _, rd ++ [t], rfl, by rw [hss]; simp, fun y y1 y2 y3 y4 => ?_, hR6, hstep _ (by rw [if_pos h0]), hcl4, hj4⟩
       show upd (upd st'.ρ _ _) _ _ y = _
       rw [upd_ne _ _ y4, upd_ne _ _ y3]; exact hρ y y1 y2 y3 y4
     · refine ite_f (by simpa using h0) (SW.nil (SW.nil ?_))
       refine ⟨dn ++ [t], rest, _, rd, rfl, by rw [hss]; simp, fun y y1 y2 y3 y4 => ?_, hR4, hstep _ (by rw [if_neg h0]), hcl4, hj4⟩
       show upd (upd st'.ρ _ _) _ _ y = _
       rw [upd_ne _ _ y4, upd_ne _ _ y3]; exact hρ y y1 y2 y3 y4
 · show upd (upd st.ρ _ _) _ _ y = _
   rw [upd_ne _ _ y2, upd_ne _ _ y1]
 · have : ({ S with infos := setNp S.infos i.name (-2), ready := some (D, l) } : Srt) = { S with infos := setNp S.infos i.name (-2) } := by rw [← hr]
   rw [this]; exact hR1
 · rw [← gPut_set]; rfl
theorem done_fail {L' f : Addr} {q : Str} {cd : Value} {st : St} {S : Srt} {i : Info} {Q : AF → St → Prop} (hS : KS2 p ad) (hB : KB p) (hR : SR ad st.σ S)
   (h2 : st.ρ "n2i" = some (.ref S.nd)) (h3 : st.ρ "node" = some (.str i.name)) (hi : i ∈ S.infos) (hnp : 0 ≤ i.np) (hrep : (reprText i.name).length ≤ 1000)
   (h : ∀ st', st'.σ = st.σ → X (.type "ValueError") st') :
   SW p n .body (mkEnv (fnScope (methS (nthS P1 6) 7)) L' f q cd) (forBody dFor) Q X st := by
 refine xE hR.hnd fun ep2 hnd => (xE hS.out fun t0 hout => (xA (hR.hin i hi) fun e1 e2 => (SW.cons (XW.iff (TW.cmp (EW.named (EW.callM (EW.var h2 (MW.builtin (recv_dict hnd) F.plainAttrs_dict F.slot_dict_get F.type_dict_get (AW.cons (LW.cons (EW.var h3 (LW.nil (call_dget hnd ?_))))))))))))))
 rw [aget_info.1 i hi rfl hR.names]
 refine AsW.name (EW.noneC (is_none_f (by intro z; exact xav z rfl) (truthy_bool (ite_f (by decide) (SW.nil ?_)))))
 refine SW.cons (XW.assign (EW.attr (EW.var rfl (ga_slot e1 hS.clsN hS.sPred rfl ?_))))
 refine SW.cons (XW.iff (TW.cmp (EW.var rfl (EW.glob hout (.int (-1) t0) (ne_int (truthy_bool (ite_t (by simp; lia) (SW.cons (XW.iff (TW.cmp (EW.var rfl (EW.int (ge_int (truthy_bool (ite_t (by simpa using hnp) (SW.cons (XW.raiseB F.excCall_ValueError F.excRaise_ValueError (by decide) hB.value bb_value (AW.cons (LW.cons ?_)))))))))))))))))))
 refine EW.fstr3 h3 ?_ ?_
 · refine LW.nil ⟨h _ rfl, by simp⟩
 · have e1 : (Str.ofString "node ").length ≤ 100 := by decide +kernel
   have e2 : (Str.ofString " was not passed out (still not ready)").length ≤ 100 := by decide +kernel
   have : (Str.ofString "node ").length + (reprText i.name).length + (Str.ofString " was not passed out (still not ready)").length ≤ 16777216 := by lia
   exact this
theorem bindDone {f : Addr} {fo : Obj} {fd : FuncData} {x : AV} {rest : List AV} (hz : rest.length ≤ 1000) (F : FnOK p f (fnArgs (methS (nthS P1 6) 7)) (fnBody (methS (nthS P1 6) 7)) (fnScope (methS (nthS P1 6) 7)) .none fo fd) : BindA p fd (x :: rest) [("self", x), ("nodes", .tup rest)] := by
 refine BindA.var (as := [x]) (bs := [("self", x)]) rfl (by lia) fun vs rs hl => ?_
 refine xEE ((by cases vs with | nil => cases hl | cons v r => exact ⟨v, r, rfl⟩) : ∃ v r, vs = v :: r) fun v vs zz1 => ?_; subst zz1
 cases vs with
 | cons _ _ => simp at hl
 | nil =>
   exact b_any F.params F.dflt F.kwd fun _ => by cases rs <;> rfl
theorem callDone {σ : Addr → Option AObj} {ρ : String → Option AV} {S : Srt} {D : Addr} {l : List Str} {i : Info} (hS : KS2 p ad) (hB : KB p) (hb : b ≠ .handler) (hR : SR ad σ S) (hr : S.ready = some (D, l))
   (hi : i ∈ S.infos) (hz : l.length + i.ss.length ≤ 1000) (hcl : ∀ y ∈ i.ss, ∃ w ∈ S.infos, w.name = y) (hrep : (reprText i.name).length ≤ 1000)
   (hok : i.np = -1 → ∀ σ' infos', SR ad σ' { S with infos := infos', ready := some (D, (gDone (S.infos.map Info.nod) l i.name).2), nf := S.nf + 1 } → infos'.map Info.nod = (gDone (S.infos.map Info.nod) l i.name).1 → Q .none ⟨ρ, σ'⟩)
   (hno : 0 ≤ i.np → ∀ σ', X (.type "ValueError") ⟨ρ, σ'⟩) (hnp : i.np = -1 ∨ 0 ≤ i.np) : CC p (n + 1) b env (.ref ad.done) [.ref S.x, .str i.name] Q X ⟨ρ, σ⟩ := by
 refine xEE hS.fDone.ex fun fo fd F => (xE hR.hdx fun ep1 hdx => ?_)
 rw [hr] at hdx
 refine callFnC F (bindDone (rest := [.str i.name]) (by simp) F) hb (by intro y hy; simp only [List.mem_cons, List.not_mem_nil, or_false] at hy; rcases hy with rfl | rfl <;> rfl) (by decide +kernel) rfl rfl rfl fun L' q cd => ?_
 repeat (first | refine SW.cons ?_ | refine XW.assign ?_ | refine XW.iff ?_ | refine XW.ret ?_ | refine XW.expr ?_ | refine XW.assignAttr ?_ | refine XW.augAttr ?_ | refine TW.cmp ?_ | refine TW.not ?_ | refine EW.var (by first | exact rfl | assumption) ?_ | refine EW.int ?_ | refine EW.str ?_ | refine EW.bool ?_ | refine EW.noneC ?_ | refine EW.attr ?_ | refine EW.callM ?_ | refine EW.binop ?_ | refine EW.unop ?_ | refine EW.tup ?_ | refine EW.list ?_ | refine EW.cut ?_ | refine EW.sub ?_ | refine OW.no ?_ | refine OW.yes ?_ | refine LW.nil ?_ | refine LW.cons ?_ | refine AW.cons ?_ | refine AW.nil ?_ | refine truthy_bool ?_ | refine AsW.name ?_ | refine AsW.tup (by decide) ?_ | dsimp only)
 refine ga_dict hR.hx hdx hS.clsT hS.dictT hS.f2 ag_ready (EW.noneC (is_none_f (by intro z; exact xav z rfl) (truthy_bool (ite_f (by decide) (SW.nil ?_)))))
 refine SW.cons (XW.assign (EW.attr (EW.var rfl (ga_dict hR.hx hdx hS.clsT hS.dictT hS.f1 ag_n2i ?_))))
 refine SW.cons (XW.for rfl (ItE.of (EW.var rfl ⟨_, _, iter_tup, ⟨trivial, AsW.name ?_⟩⟩)))
 rcases hnp with hnp | hnp
 · refine done_one (S := S) (i := i) hS hB hR hr rfl rfl rfl hi hnp hz hcl fun st' infos' hρ hR' hg' => ⟨trivial, SW.nil ?_⟩
   exact SW.nil (hok hnp _ infos' hR' hg')
 · exact done_fail (S := S) (i := i) hS hB hR rfl rfl hi hnp hrep fun st' zw => hno hnp _
structure TS where
 g : List Nod
 rd : List Str
 po : Int
 nf : Int
noncomputable def TS.next (s : TS) (t : Str) : TS := ⟨(gDone (gOut s.g s.rd) [] t).1, (gDone (gOut s.g s.rd) [] t).2, s.po + s.rd.length, s.nf + 1⟩
noncomputable def takenRun : List Str → TS → Bool
 | [], _ => true
 | t :: r, s => if npOf (gOut s.g s.rd) t = -1 then takenRun r (s.next t) else false
noncomputable def RunOK : List Str → TS → Prop
 | [], s => s.rd.length ≤ 900
 | t :: r, s => s.rd.length ≤ 900 ∧ (∀ y ∈ s.rd, ∃ z ∈ s.g, z.name = y) ∧ (∃ z ∈ s.g, z.name = t) ∧ (∀ z ∈ s.g, z.ss.length ≤ 100 ∧ ∀ y ∈ z.ss, ∃ w ∈ s.g, w.name = y) ∧ (reprText t).length ≤ 1000
   ∧ (npOf (gOut s.g s.rd) t = -1 ∨ 0 ≤ npOf (gOut s.g s.rd) t) ∧ (npOf (gOut s.g s.rd) t = -1 → RunOK r (s.next t))
theorem gPut_names (g : List Nod) (x : Str) (k : Int) : (gPut g x k).map (fun z => (z.name, z.ss)) = g.map (fun z => (z.name, z.ss)) := by
 unfold gPut
 rw [List.map_map]
 refine List.map_congr_left fun z zw => ?_
 simp only [Function.comp]
 split <;> rfl
theorem gOut_names (l : List Str) : ∀ g : List Nod, (gOut g l).map (fun z => (z.name, z.ss)) = g.map (fun z => (z.name, z.ss)) := by
 induction l with
 | nil => intro g; rfl
 | cons x l ih => intro g; exact (ih (gPut g x (-1))).trans (gPut_names g x (-1))
theorem same_names {g g' : List Nod} (h : g'.map (fun z => (z.name, z.ss)) = g.map (fun z => (z.name, z.ss))) {z : Nod} (hz : z ∈ g) : ∃ w ∈ g', w.name = z.name ∧ w.ss = z.ss := by
 have : (z.name, z.ss) ∈ g'.map (fun z => (z.name, z.ss)) := by rw [h]; exact List.mem_map.mpr ⟨z, hz, rfl⟩
 exact xEA (List.mem_map.mp this) fun w hw e => ⟨w, hw, congrArg (·.1) e, congrArg (·.2) e⟩
theorem isExc_value : isSubtype (.type "ValueError") (.type "BaseException") = pure true := by rw [isSubtype_type]; kernel_rfl
theorem notTuple_value : isSubtype (.type ((Manifest.find? "ValueError").elim "type" fun x => x.metatype)) (.type "tuple") = pure false := by
 rw [show (Manifest.find? "ValueError").elim "type" (fun x => x.metatype) = "type" from by kernel_rfl]; exact tc_notTuple
theorem sub_value : isSubtype (.type "ValueError") (.type "ValueError") = pure true := by rw [isSubtype_type]; kernel_rfl
structure KF1 (p : PC) (name : String) (f : Addr) (s : Stmt) : Prop where
 ns : nsIn p.K mainGlobals (Str.ofString name) = some (some (.ref f))
 keep : keepIn p.K (.ref f) = true
 fn : FnK p f s .none
theorem filt_map {α : Type} (P : α → Bool) (f : α → AV) : ∀ l : List α, (l.map fun r => if P r then some (f r) else none).filterMap id = (l.filter P).map f
 | [] => rfl
 | a :: l => by
   have ih := filt_map P f l
   cases h : P a <;> simp [h, ih]
theorem some_map {α : Type} (f : α → AV) : ∀ l : List α, (l.map fun r => some (f r)).filterMap id = l.map f
 | [] => rfl
 | a :: l => by simp [some_map f l]
theorem dat_strs {l : List Str} (h : ∀ x ∈ l, Dat (.str x)) : Dat (.lst (l.map .str)) := by
 have h1 : noRefs (l.map .str) = true := by
   induction l with
   | nil => rfl
   | cons x l ih => simp [noRefs, noRef, ih fun y hy => h y (.tail _ hy)]
 have h2 : PyData.canLayAll0 (toDs (l.map .str)) = true := by
   clear h1
   induction l with
   | nil => rfl
   | cons x l ih =>
     have := (h x (.head _)).2.1
     simp only [List.map_cons, toDs, PyData.canLayAll0, Bool.and_eq_true]
     exact ⟨this, ih fun y hy => h y (.tail _ hy)⟩
 have h3 : PyData.depthAll (toDs (l.map AV.str)) = 0 := by
   clear h1 h2 h
   induction l with
   | nil => rfl
   | cons x l ih => simp [toDs, toD, PyData.depthAll, PyData.depth, ih]
 refine ⟨h1, h2, ?_⟩
 show PyData.depthAll (toDs (l.map AV.str)) + 1 ≤ 50
 lia
theorem eqv_strs (l : List Str) : PyData.eqv (toD (.lst (l.map .str))) (toD (.lst (l.map .str))) = true := by
 show PyData.eqvAll (toDs (l.map .str)) (toDs (l.map .str)) = true
 induction l with
 | nil => rfl
 | cons x l ih => simp [toDs, toD, PyData.eqvAll, PyData.eqv, ih]
theorem eqv_nil (l : List AV) : PyData.eqv (toD (.lst l)) (toD (.lst [])) = l.isEmpty := by
 cases l <;> rfl
theorem bind1 {s : Stmt} {x : String} {f : Addr} {fo : Obj} {fd : FuncData} {a : AV} (F : FnOK p f (fnArgs s) (fnBody s) (fnScope s) .none fo fd) (h : ∀ fd : FuncData, fd.params = fnArgs s → fd.defaults = .none → fd.kwdefaults = .none → ∀ v : Value, bindArgs fd ⟨[v], []⟩ = pure [(Str.ofString x, v)]) : BindA p fd [a] [(x, a)] := by
 refine BindA.plain rfl fun vs hl => ?_
 refine xEE ((by cases vs with | nil => cases hl | cons v r => exact ⟨v, r, rfl⟩) : ∃ v r, vs = v :: r) fun v vs zz1 => ?_; subst zz1
 cases vs with
 | cons _ _ => simp at hl
 | nil => exact h fd F.params F.dflt F.kwd v
theorem bind2' {s : Stmt} {x y : String} {f : Addr} {fo : Obj} {fd : FuncData} {a c : AV} (F : FnOK p f (fnArgs s) (fnBody s) (fnScope s) .none fo fd) (h : ∀ fd : FuncData, fd.params = fnArgs s → fd.defaults = .none → fd.kwdefaults = .none → ∀ v u : Value, bindArgs fd ⟨[v, u], []⟩ = pure [(Str.ofString x, v), (Str.ofString y, u)]) : BindA p fd [a, c] [(x, a), (y, c)] := by
 refine BindA.plain rfl fun vs hl => ?_
 refine xEE ((by cases vs with | nil => cases hl | cons v r => exact ⟨v, r, rfl⟩) : ∃ v r, vs = v :: r) fun v vs zz2 => ?_; subst zz2
 refine xEE ((by cases vs with | nil => cases hl | cons v r => exact ⟨v, r, rfl⟩) : ∃ v r, vs = v :: r) fun u vs zz3 => ?_; subst zz3
 cases vs with
 | cons _ _ => simp at hl
 | nil => exact h fd F.params F.dflt F.kwd v u
theorem b_restore (fd : FuncData) (h1 : fd.params = fnArgs (nthS P1 8)) (h2 : fd.defaults = .none) (h3 : fd.kwdefaults = .none) (v u : Value) : bindArgs fd ⟨[v, u], []⟩ = pure [(Str.ofString "delta", v), (Str.ofString "which", u)] := b_any h1 h2 h3 fun _ => rfl
noncomputable def gr (N : List Str) (np : Str → Int) (ss : Str → List Str) : List Nod := N.map fun x => ⟨x, np x, ss x⟩
noncomputable def touch (N : List Str) (x : Str) : List Str := if x ∈ N then N else N ++ [x]
noncomputable abbrev Edg := List (Str × Str)
noncomputable def inE (E : Edg) (x : Str) : Int := ((E.filter fun e => e.2 = x).length : Nat)
noncomputable def outE (E : Edg) (x : Str) : List Str := (E.filter fun e => e.1 = x).map (·.2)
noncomputable def gE (N : List Str) (E : Edg) : List Nod := gr N (inE E) (outE E)
noncomputable def EdgesIn (N : List Str) (E : Edg) : Prop := ∀ e ∈ E, e.1 ∈ N ∧ e.2 ∈ N
theorem gr_touch {N : List Str} {np : Str → Int} {ss : Str → List Str} {x : Str} (h : x ∉ N → np x = 0 ∧ ss x = []) : gTouch (gr N np ss) x = gr (touch N x) np ss := by
 unfold gTouch touch
 have e : ((gr N np ss).any fun z => z.name == x) = decide (x ∈ N) := by
   rw [Bool.eq_iff_iff]
   simp only [gr, List.any_map, List.any_eq_true, Function.comp, beq_iff_eq, decide_eq_true_eq]
   constructor
   · intro zz1; refine xEA zz1 fun y hy e => ?_; exact e ▸ hy
   · intro hx; exact ⟨x, hx, rfl⟩
 rw [e]
 by_cases hx : x ∈ N
 · simp only [hx, decide_true, if_true]
 · simp only [hx, decide_false, Bool.false_eq_true, if_false]
   refine xA (h hx) fun h1 h2 => ?_
   simp [gr, h1, h2]
theorem gr_more (N : List Str) (np : Str → Int) (ss : Str → List Str) (x : Str) (k : Int) : gMore (gr N np ss) x k = gr N (fun y => if y = x then np y + k else np y) ss := by
 unfold gMore gr
 rw [List.map_map]
 refine List.map_congr_left fun y zw => ?_
 simp only [Function.comp]
 by_cases h : y = x
 · simp [h]
 · simp [h]
theorem gr_succ (N : List Str) (np : Str → Int) (ss : Str → List Str) (x s : Str) : gSucc (gr N np ss) x s = gr N np (fun y => if y = x then ss y ++ [s] else ss y) := by
 unfold gSucc gr
 rw [List.map_map]
 refine List.map_congr_left fun y zw => ?_
 simp only [Function.comp]
 by_cases h : y = x
 · simp [h]
 · simp [h]
theorem gr_put (N : List Str) (np : Str → Int) (ss : Str → List Str) (x : Str) (k : Int) : gPut (gr N np ss) x k = gr N (fun y => if y = x then k else np y) ss := by
 unfold gPut gr
 rw [List.map_map]
 refine List.map_congr_left fun y zw => ?_
 simp only [Function.comp]
 by_cases h : y = x
 · simp [h]
 · simp [h]
theorem gr_find {N : List Str} {np : Str → Int} {ss : Str → List Str} {x : Str} : ((gr N np ss).find? fun y => y.name = x) = if x ∈ N then some ⟨x, np x, ss x⟩ else none := by
 unfold gr
 induction N with
 | nil => simp
 | cons y N ih =>
   simp only [List.map_cons, List.find?_cons]
   by_cases h : y = x
   · subst h; simp
   · simp only [h, decide_false]
     rw [ih]
     have : (x ∈ y :: N) ↔ x ∈ N := by simp [Ne.symm h]
     simp only [this]
theorem gr_np {N : List Str} {np : Str → Int} {ss : Str → List Str} {x : Str} (h : x ∈ N) : npOf (gr N np ss) x = np x := by
 unfold npOf; rw [gr_find, if_pos h]; rfl
theorem gr_ss {N : List Str} {np : Str → Int} {ss : Str → List Str} {x : Str} (h : x ∈ N) : succOf (gr N np ss) x = ss x := by
 unfold succOf; rw [gr_find, if_pos h]; rfl
theorem mem_touch {N : List Str} {x y : Str} : y ∈ touch N x ↔ y ∈ N ∨ y = x := by
 unfold touch
 split
 · constructor
   · exact .inl
   · rintro (h | rfl) <;> assumption
 · simp
theorem nodup_touch {N : List Str} (x : Str) (h : N.Nodup) : (touch N x).Nodup := by
 unfold touch
 split
 · exact h
 · rename_i hx
   rw [List.nodup_append]
   exact ⟨h, by simp, fun a ha b hb => by simp only [List.mem_singleton] at hb; subst hb; exact fun e => hx (e ▸ ha)⟩
theorem inE_none {N : List Str} {E : Edg} (h : EdgesIn N E) {x : Str} (hx : x ∉ N) : inE E x = 0 ∧ outE E x = [] := by
 constructor
 · unfold inE
   rw [List.filter_eq_nil_iff.mpr]
   · rfl
   · intro e he z
     exact hx ((of_decide_eq_true z) ▸ (h e he).2)
 · unfold outE
   rw [List.filter_eq_nil_iff.mpr]
   · rfl
   · intro e he z
     exact hx ((of_decide_eq_true z) ▸ (h e he).1)
theorem inE_add (E : Edg) (q x : Str) : (fun y => if y = x then inE E y + 1 else inE E y) = inE (E ++ [(q, x)]) := by
 funext y
 unfold inE
 rw [List.filter_append, List.length_append]
 by_cases h : y = x
 · subst h; simp
 · simp [h, Ne.symm h]
theorem outE_add (E : Edg) (q x : Str) : (fun y => if y = q then outE E y ++ [x] else outE E y) = outE (E ++ [(q, x)]) := by
 funext y
 unfold outE
 rw [List.filter_append, List.map_append]
 by_cases h : y = q
 · subst h; simp
 · simp [h, Ne.symm h]
theorem gAdd0 {N : List Str} {E : Edg} (h : EdgesIn N E) (x : Str) : gAdd (gE N E) x [] = gE (touch N x) E := by
 unfold gAdd gE
 simp only [List.foldl_nil, List.length_nil]
 rw [gr_touch fun hx => inE_none h hx, gr_more]
 congr 1
 funext y
 split <;> simp
theorem gAdd1 {N : List Str} {E : Edg} (h : EdgesIn N E) (x q : Str) : gAdd (gE N E) x [q] = gE (touch (touch N x) q) (E ++ [(q, x)]) := by
 unfold gAdd gE
 simp only [List.foldl_cons, List.foldl_nil, List.length_cons, List.length_nil]
 rw [gr_touch fun hx => inE_none h hx, gr_more]
 have e1 : (fun y => if y = x then inE E y + ((0 + 1 : Nat) : Int) else inE E y) = inE (E ++ [(q, x)]) := inE_add E q x
 rw [e1, gr_touch, gr_succ, outE_add]
 intro hq
 have hq1 : q ∉ N := fun z => hq (mem_touch.mpr (.inl z))
 have hqx : q ≠ x := fun z => hq (mem_touch.mpr (.inr z))
 refine ⟨?_, (inE_none h hq1).2⟩
 rw [← inE_add]
 simp only [hqx, if_false]
 exact (inE_none h hq1).1
noncomputable def chainE : Option Str → List Str → Edg
 | _, [] => []
 | q, x :: r => (q.toList.map fun a => (a, x)) ++ chainE (some x) r
theorem EdgesIn.mono {N N' : List Str} {E : Edg} (h : EdgesIn N E) (k : ∀ x ∈ N, x ∈ N') : EdgesIn N' E := fun e he => ⟨k _ (h e he).1, k _ (h e he).2⟩
theorem EdgesIn.add {N : List Str} {E : Edg} (h : EdgesIn N E) {q x : Str} (hq : q ∈ N) (hx : x ∈ N) : EdgesIn N (E ++ [(q, x)]) := fun e he => by
 rcases List.mem_append.mp he with he | he
 · exact h e he
 · simp only [List.mem_singleton] at he; subst he; exact ⟨hq, hx⟩
theorem chain_gE : ∀ (l : List Str) (N : List Str) (E : Edg) (q : Option Str), EdgesIn N E → (∀ a, q = some a → a ∈ N) → N.Nodup →
   ∃ N', chainAdd (gE N E) q l = gE N' (E ++ chainE q l) ∧ EdgesIn N' (E ++ chainE q l) ∧ N'.Nodup ∧ ∀ x, x ∈ N' ↔ x ∈ N ∨ x ∈ l
 | [], N, E, q, h, _, hn => ⟨N, by simp [chainAdd, chainE], by simpa [chainE] using h, hn, fun x => by simp⟩
 | x :: l, N, E, none, h, _, hn => by
   have hx : x ∈ touch N x := mem_touch.mpr (.inr rfl)
   have h1 : EdgesIn (touch N x) E := h.mono fun y hy => mem_touch.mpr (.inl hy)
   refine xEAAA (chain_gE l (touch N x) E (some x) h1 (fun a ha => by cases Option.some.inj ha; exact hx) (nodup_touch x hn)) fun N' e hE hN hm => ?_
   refine ⟨N', ?_, by simpa [chainE] using hE, hN, fun y => ?_⟩
   · show chainAdd (gAdd (gE N E) x []) (some x) l = _
     rw [gAdd0 h, e]; simp [chainE]
   · rw [hm y, mem_touch, List.mem_cons, or_assoc]
 | x :: l, N, E, some q, h, hq, hn => by
   have hx : x ∈ touch (touch N x) q := mem_touch.mpr (.inl (mem_touch.mpr (.inr rfl)))
   have hqm : q ∈ N := hq q rfl
   have h1 : EdgesIn (touch (touch N x) q) (E ++ [(q, x)]) := (h.mono fun y hy => mem_touch.mpr (.inl (mem_touch.mpr (.inl hy)))).add (mem_touch.mpr (.inr rfl)) hx
   refine xEAAA (chain_gE l _ _ (some x) h1 (fun a ha => by cases Option.some.inj ha; exact hx) (nodup_touch q (nodup_touch x hn))) fun N' e hE hN hm => ?_
   have hass : E ++ [(q, x)] ++ chainE (some x) l = E ++ chainE (some q) (x :: l) := by simp [chainE]
   refine ⟨N', ?_, hass ▸ hE, hN, fun y => ?_⟩
   · show chainAdd (gAdd (gE N E) x [q]) (some x) l = _
     rw [gAdd1 h, e, hass]
   · rw [hm y, mem_touch, mem_touch, List.mem_cons]
     constructor
     · rintro (((h | h) | h) | h)
       · exact .inl h
       · exact .inr (.inl h)
       · exact .inl (h ▸ hqm)
       · exact .inr (.inr h)
     · rintro (h | h | h)
       · exact .inl (.inl (.inl h))
       · exact .inl (.inl (.inr h))
       · exact .inr h
noncomputable def cnt (l : List Str) (x : Str) : Nat := (l.filter fun y => y = x).length
noncomputable def pend (E : Edg) (dn : List Str) (x : Str) : Nat := (E.filter fun e => decide (e.2 = x) && decide (e.1 ∉ dn)).length
theorem cnt_pos {l : List Str} {x : Str} : 0 < cnt l x ↔ x ∈ l := by
 unfold cnt
 rw [List.length_pos_iff_exists_mem]
 constructor
 · intro zz1; refine xE zz1 fun y hy => ?_
   exact xA (List.mem_filter.mp hy) fun h1 h2 => ((of_decide_eq_true h2) ▸ h1)
 · intro h; exact ⟨x, List.mem_filter.mpr ⟨h, by simp⟩⟩
theorem cnt_cons (s : Str) (l : List Str) (x : Str) : cnt (s :: l) x = (if s = x then 1 else 0) + cnt l x := by
 unfold cnt
 rw [List.filter_cons]
 by_cases h : s = x
 · simp [h]; lia
 · simp [h]
theorem pend_zero {E : Edg} {dn : List Str} {x : Str} : pend E dn x = 0 ↔ ∀ a, (a, x) ∈ E → a ∈ dn := by
 unfold pend
 rw [List.length_eq_zero_iff, List.filter_eq_nil_iff]
 constructor
 · intro h a ha
   have := h (a, x) ha
   simpa using this
 · intro h e he z
   simp only [Bool.and_eq_true, decide_eq_true_eq] at z
   exact xA z fun z1 z2 => (z2 (h e.1 (by rw [← z1]; exact he)))
theorem pend_add {dn : List Str} {t : Str} (ht : t ∉ dn) (x : Str) : ∀ E : Edg, pend E dn x = pend E (t :: dn) x + cnt (outE E t) x
 | [] => rfl
 | e :: E => by
   have ih := pend_add ht x E
   have c1 : pend (e :: E) dn x = (if e.2 = x ∧ e.1 ∉ dn then 1 else 0) + pend E dn x := by
     unfold pend
     rw [List.filter_cons]
     by_cases h1 : e.2 = x <;> by_cases h2 : e.1 ∈ dn <;> simp [h1, h2] <;> lia
   have c2 : pend (e :: E) (t :: dn) x = (if e.2 = x ∧ e.1 ∉ t :: dn then 1 else 0) + pend E (t :: dn) x := by
     unfold pend
     rw [List.filter_cons]
     by_cases h1 : e.2 = x <;> by_cases h2 : e.1 ∈ t :: dn <;> simp only [h1, h2, decide_true, decide_false, not_true, not_false_iff, Bool.and_true, Bool.and_false, Bool.true_and, Bool.false_and, if_true, if_false, and_true, and_false, true_and, false_and, List.length_cons, Bool.false_eq_true] <;> lia
   have c3 : cnt (outE (e :: E) t) x = (if e.1 = t ∧ e.2 = x then 1 else 0) + cnt (outE E t) x := by
     unfold outE
     rw [List.filter_cons]
     by_cases h1 : e.1 = t
     · simp only [h1, decide_true, if_true, List.map_cons, true_and]
       rw [cnt_cons]
     · simp [h1]
   rw [c1, c2, c3]
   by_cases h1 : e.2 = x
   · by_cases h2 : e.1 = t
     · simp only [h1, h2, ht, not_false_iff, List.mem_cons, true_or, not_true, and_self, and_false, if_true, if_false]; lia
     · simp only [h1, h2, List.mem_cons, false_or, true_and, false_and, if_false]; lia
   · simp only [h1, false_and, and_false, if_false]; lia
theorem gr_out (N : List Str) (ss : Str → List Str) : ∀ (rd : List Str) (np : Str → Int), gOut (gr N np ss) rd = gr N (fun y => if y ∈ rd then -1 else np y) ss
 | [], np => by simp [gOut]
 | x :: rd, np => by
   have ih := gr_out N ss rd (fun y => if y = x then -1 else np y)
   show gOut (gPut (gr N np ss) x (-1)) rd = _
   rw [gr_put, ih]
   congr 1
   funext y
   by_cases h1 : y = x
   · simp [h1]
   · simp [h1]
theorem dec_fold (N : List Str) (ss : Str → List Str) : ∀ (l : List Str) (np : Str → Int) (rd : List Str), (∀ s ∈ l, s ∈ N) → (∀ s ∈ l, (cnt l s : Int) ≤ np s) → (∀ s ∈ l, s ∉ rd) → rd.Nodup →
   ∃ np' rd', l.foldl decOne (gr N np ss, rd) = (gr N np' ss, rd') ∧ (∀ x, np' x = np x - cnt l x) ∧ rd'.Nodup ∧ ∀ x, x ∈ rd' ↔ x ∈ rd ∨ (x ∈ l ∧ np x = cnt l x)
 | [], np, rd, _, _, _, hn => ⟨np, rd, rfl, fun x => by simp [cnt], hn, fun x => by simp⟩
 | s :: l, np, rd, h1, h2, h3, hn => by
   have hs := h1 s (.head _)
   have hc := h2 s (.head _)
   rw [cnt_cons, if_pos rfl] at hc
   have e1 : decOne (gr N np ss, rd) s = (gr N (fun y => if y = s then np y + -1 else np y) ss, if np s + -1 = 0 then rd ++ [s] else rd) := by
     unfold decOne
     dsimp only
     rw [gr_more, gr_np hs]
     simp
   have hcs : s ∈ l → (1 : Int) ≤ cnt l s := fun h => by have := cnt_pos.mpr h; lia
   have hA : ∀ x ∈ l, (cnt l x : Int) ≤ (fun y => if y = s then np y + -1 else np y) x := fun x hx => by
     have := h2 x (.tail _ hx)
     rw [cnt_cons] at this
     by_cases hxs : x = s
     · subst hxs; simp only [if_true] at this ⊢; lia
     · simp only [hxs, Ne.symm hxs, if_false] at this ⊢; lia
   have hB : ∀ x ∈ l, x ∉ (if np s + -1 = 0 then rd ++ [s] else rd) := fun x hx => by
     have := h3 x (.tail _ hx)
     by_cases hz : np s + -1 = 0
     · simp only [hz, if_true, List.mem_append, List.mem_singleton, not_or]
       refine ⟨this, fun hxs => ?_⟩
       subst hxs
       have := hcs hx
       lia
     · simp only [hz, if_false]; exact this
   have hC : (if np s + -1 = 0 then rd ++ [s] else rd).Nodup := by
     by_cases hz : np s + -1 = 0
     · simp only [hz, if_true]
       rw [List.nodup_append]
       exact ⟨hn, by simp, fun a ha c hc => by simp only [List.mem_singleton] at hc; subst hc; exact fun e => h3 c (.head _) (e ▸ ha)⟩
     · simp only [hz, if_false]; exact hn
   refine xEEAAA (dec_fold N ss l (fun y => if y = s then np y + -1 else np y) (if np s + -1 = 0 then rd ++ [s] else rd) (fun x hx => h1 x (.tail _ hx)) hA hB hC) fun np' rd' e2 k1 k2 k3 => ?_
   refine ⟨np', rd', ?_, fun x => ?_, k2, fun x => ?_⟩
   · rw [List.foldl_cons, e1, e2]
   · rw [k1, cnt_cons]
     by_cases hx : x = s
     · subst hx; simp only [if_true]; lia
     · simp only [hx, Ne.symm hx, if_false]; lia
   · rw [k3, cnt_cons]
     by_cases hx : x = s
     · subst hx
       simp only [if_true, List.mem_cons, true_or, true_and]
       by_cases hz : np x + -1 = 0
       · have hnl : x ∉ l := fun h => by have := hcs h; lia
         have hc0 : cnt l x = 0 := by
           rcases Nat.eq_zero_or_pos (cnt l x) with h | h
           · exact h
           · exact (hnl (cnt_pos.mp h)).elim
         simp only [hz, if_true, List.mem_append, List.mem_singleton, hnl, false_and, or_false, hc0]
         constructor
         · intro _; exact .inr (by lia)
         · intro _; exact .inr trivial
       · simp only [hz, if_false]
         constructor
         · rintro (h | ⟨h, e⟩)
           · exact .inl h
           · exact .inr (by lia)
         · rintro (h | e)
           · exact .inl h
           · refine .inr ⟨?_, by lia⟩
             have : 0 < cnt l x := by lia
             exact cnt_pos.mp this
     · simp only [hx, Ne.symm hx, if_false, List.mem_cons, false_or, Nat.zero_add]
       by_cases hz : np s + -1 = 0
       · simp only [hz, if_true, List.mem_append, List.mem_singleton, hx, or_false]
       · simp only [hz, if_false]
structure Inv (N : List Str) (E : Edg) (dn : List Str) (np : Str → Int) (rd : List Str) : Prop where
 a : ∀ x ∈ dn, np x = -2 ∧ pend E dn x = 0
 b : ∀ x ∈ N, x ∉ dn → 0 < pend E dn x → np x = pend E dn x
 c : ∀ x ∈ N, x ∉ dn → pend E dn x = 0 → (np x = 0 ∧ x ∈ rd) ∨ (np x = -1 ∧ x ∉ rd)
 n : rd.Nodup
 d : ∀ x ∈ rd, x ∈ N ∧ x ∉ dn ∧ pend E dn x = 0 ∧ np x = 0
theorem outE_mem {E : Edg} {t x : Str} : x ∈ outE E t ↔ (t, x) ∈ E := by
 unfold outE
 simp only [List.mem_map, List.mem_filter, decide_eq_true_eq]
 constructor
 · intro zz2; refine xEA zz2 fun e zz3 zz4 => ?_; obtain ⟨he, rfl⟩ := zz3; subst zz4; exact he
 · intro h; exact ⟨(t, x), ⟨h, rfl⟩, rfl⟩
theorem Inv.out {N : List Str} {E : Edg} {dn : List Str} {np : Str → Int} {rd : List Str} (I : Inv N E dn np rd) : Inv N E dn (fun y => if y ∈ rd then -1 else np y) [] := by
 refine ⟨fun x hx => ?_, fun x hN hx hp => ?_, fun x hN hx hp => .inr ⟨?_, by simp⟩, .nil, by intro x hx; cases hx⟩
 · rw [if_neg fun z => (I.d x z).2.1 hx]; exact I.a x hx
 · rw [if_neg fun z => by have := (I.d x z).2.2.1; lia]; exact I.b x hN hx hp
 · by_cases z : x ∈ rd
   · rw [if_pos z]
   · rw [if_neg z]
     rcases I.c x hN hx hp with ⟨_, h⟩ | ⟨h, _⟩
     · exact (z h).elim
     · exact h
theorem Inv.done {N : List Str} {E : Edg} {dn : List Str} {np : Str → Int} {rd : List Str} {t : Str} (I : Inv N E dn np rd) (hE : EdgesIn N E) (ht : t ∈ N) (htd : t ∉ dn) (hp : pend E dn t = 0) (htr : t ∉ rd) :
   ∃ np' rd', gDone (gr N np (outE E)) rd t = (gr N np' (outE E), rd') ∧ Inv N E (t :: dn) np' rd' ∧ (∀ x, x ≠ t → pend E dn x = 0 → np' x = np x) ∧ (∀ x, x ∈ rd' → x ∈ rd ∨ 0 < pend E dn x) ∧ ∀ x, np' x = -1 → np x = -1 := by
 have hno : ∀ s ∈ outE E t, s ≠ t := fun s hs z => by
   rw [z] at hs
   exact htd (pend_zero.mp hp t (outE_mem.mp hs))
 have hN : ∀ s ∈ outE E t, s ∈ N := fun s hs => (hE _ (outE_mem.mp hs)).2
 have padd := fun x => pend_add htd x E
 have hout : ∀ s ∈ outE E t, s ∉ dn ∧ s ∉ rd ∧ np s = pend E dn s := fun s hs => by
   have h1 := cnt_pos.mpr hs
   have h2 := padd s
   have hd : s ∉ dn := fun z => by have := (I.a s z).2; lia
   exact ⟨hd, fun z => by have := (I.d s z).2.2.1; lia, I.b s (hN s hs) hd (by lia)⟩
 refine xEEAAA (dec_fold N (outE E) (outE E t) (fun y => if y = t then (-2 : Int) else np y) rd hN (fun s hs => by
   refine xAA (hout s hs) fun q1 q2 q3 => ?_
   simp only [hno s hs, if_false, q3]
   have := padd s
   lia) (fun s hs => (hout s hs).2.1) I.n) fun np' rd' e k1 k2 k3 => ?_
 have cz : ∀ x, pend E dn x = 0 → cnt (outE E t) x = 0 := fun x hx => by have := padd x; lia
 have rdIff : ∀ x, x ∈ rd' ↔ x ∈ rd ∨ (x ∈ outE E t ∧ pend E dn x = cnt (outE E t) x) := fun x => by
   rw [k3]
   refine or_congr_right (and_congr_right fun h1 => (xAA (hout x h1) fun q1 q2 q3 => ?_))
   simp only [hno x h1, if_false, q3]
   constructor <;> intro h2 <;> lia
 refine ⟨np', rd', ?_, ⟨fun x hx => ?_, fun x hxN hx hpx => ?_, fun x hxN hx hpx => ?_, k2, fun x hx => ?_⟩, fun x hxt hpx => ?_, fun x hx => ?_, fun x hx => ?_⟩
 · unfold gDone
   rw [gr_ss ht, gr_put, e]
 · rcases List.mem_cons.mp hx with rfl | hx
   · rw [k1, cz x hp]
     have := padd x
     simp only [if_true]
     exact ⟨by lia, by lia⟩
   · have hxt : x ≠ t := fun z => htd (z ▸ hx)
     have h1 := I.a x hx
     have h2 := padd x
     rw [k1]
     simp only [hxt, if_false]
     exact ⟨by lia, by lia⟩
 · simp only [List.mem_cons, not_or] at hx
   have h2 := padd x
   have hb := I.b x hxN hx.2 (by lia)
   rw [k1]
   simp only [hx.1, if_false]
   lia
 · simp only [List.mem_cons, not_or] at hx
   have h2 := padd x
   rcases Nat.eq_zero_or_pos (cnt (outE E t) x) with hc | hc
   · have hno' : x ∉ outE E t := fun z => by have := cnt_pos.mpr z; lia
     rw [k1]
     simp only [hx.1, if_false]
     rcases I.c x hxN hx.2 (by lia) with ⟨q1, q2⟩ | ⟨q1, q2⟩
     · exact .inl ⟨by lia, (rdIff x).mpr (.inl q2)⟩
     · exact .inr ⟨by lia, fun z => ((rdIff x).mp z).elim q2 fun h => hno' h.1⟩
   · left
     have hm := cnt_pos.mp hc
     refine xAA (hout x hm) fun q1 q2 q3 => ⟨?_, (rdIff x).mpr (.inr ⟨hm, by lia⟩)⟩
     rw [k1]
     simp only [hx.1, if_false]
     lia
 · rcases (rdIff x).mp hx with h1 | ⟨h1, h2⟩
   · refine xAAA (I.d x h1) fun d1 d2 d3 d4 => ?_
     have hxt : x ≠ t := fun z => htr (z ▸ h1)
     have h4 := padd x
     refine ⟨d1, ?_, by lia, ?_⟩
     · simp only [List.mem_cons, not_or]; exact ⟨hxt, d2⟩
     · rw [k1, cz x d3]
       simp only [hxt, if_false]
       lia
   · refine xAA (hout x h1) fun q1 q2 q3 => ?_
     have h4 := padd x
     refine ⟨hN x h1, ?_, by lia, ?_⟩
     · simp only [List.mem_cons, not_or]; exact ⟨hno x h1, q1⟩
     · rw [k1]
       simp only [hno x h1, if_false]
       lia
 · rw [k1, cz x hpx]
   simp only [hxt, if_false]
   lia
 · rcases (rdIff x).mp hx with h1 | ⟨h1, h2⟩
   · exact .inl h1
   · have := cnt_pos.mpr h1; exact .inr (by lia)
 · rw [k1] at hx
   by_cases hxt : x = t
   · subst hxt
     rw [if_pos rfl, cz x hp] at hx
     lia
   · rw [if_neg hxt] at hx
     rcases Nat.eq_zero_or_pos (cnt (outE E t) x) with hc | hc
     · rw [hc] at hx; lia
     · refine xAA (hout x (cnt_pos.mp hc)) fun q1 q2 q3 => ?_
       have := padd x
       lia
theorem Inv.step {N : List Str} {E : Edg} {dn : List Str} {np : Str → Int} {rd : List Str} {po nf : Int} {t : Str} (I : Inv N E dn np rd) (hE : EdgesIn N E) (ht : t ∈ N) (htd : t ∉ dn) (hp : pend E dn t = 0) :
   ∃ np' rd', TS.next ⟨gr N np (outE E), rd, po, nf⟩ t = ⟨gr N np' (outE E), rd', po + rd.length, nf + 1⟩ ∧ Inv N E (t :: dn) np' rd' := by
 refine xEEAA (I.out.done hE ht htd hp (by simp)) fun np' rd' e h zw => ⟨np', rd', ?_, h⟩
 unfold TS.next
 dsimp only
 rw [gr_out, e]
noncomputable def SeqOK (E : Edg) : List Str → List Str → Prop
 | _, [] => True
 | dn, t :: r => (∀ a, (a, t) ∈ E → a ∈ dn) ∧ SeqOK E (t :: dn) r
theorem outE_len (E : Edg) (x : Str) : (outE E x).length ≤ E.length := by
 unfold outE
 rw [List.length_map]
 exact List.length_filter_le _ _
theorem next_rd_len {N : List Str} {E : Edg} {np : Str → Int} {rd : List Str} {po nf : Int} {t : Str} (ht : t ∈ N) : (TS.next ⟨gr N np (outE E), rd, po, nf⟩ t).rd.length ≤ E.length := by
 unfold TS.next
 dsimp only
 rw [gr_out]
 unfold gDone
 rw [gr_ss ht]
 have := decOne_len (outE E t) (gPut (gr N (fun y => if y ∈ rd then -1 else np y) (outE E)) t (-2), [])
 have h2 := outE_len E t
 simp only [List.length_nil] at this
 lia
theorem run_seq {N : List Str} {E : Edg} (hE : EdgesIn N E) (hz : E.length ≤ 100) : ∀ (ord dn : List Str) (np : Str → Int) (rd : List Str) (po nf : Int), Inv N E dn np rd → ord.Nodup → (∀ x ∈ ord, x ∈ N ∧ x ∉ dn ∧ (reprText x).length ≤ 1000) → (∀ x ∈ N, x ∈ dn ∨ x ∈ ord) → rd.length ≤ 900 →
   RunOK ord ⟨gr N np (outE E), rd, po, nf⟩ ∧ (takenRun ord ⟨gr N np (outE E), rd, po, nf⟩ = true ↔ SeqOK E dn ord)
 | [], dn, np, rd, po, nf, I, _, _, hall, hl => by
   refine ⟨hl, ?_⟩
   simp [takenRun, SeqOK]
 | t :: r, dn, np, rd, po, nf, I, hnd, hin, hall, hl => by
   refine xAA (hin t (.head _)) fun h1 h2 h3 => ?_
   rw [List.nodup_cons] at hnd
   have hnp : npOf (gOut (gr N np (outE E)) rd) t = if t ∈ rd then -1 else np t := by rw [gr_out, gr_np h1]
   have base : rd.length ≤ 900 ∧ (∀ y ∈ rd, ∃ z ∈ gr N np (outE E), z.name = y) ∧ (∃ z ∈ gr N np (outE E), z.name = t) ∧ (∀ z ∈ gr N np (outE E), z.ss.length ≤ 100 ∧ ∀ y ∈ z.ss, ∃ w ∈ gr N np (outE E), w.name = y) ∧ (reprText t).length ≤ 1000 := by
     have mem : ∀ y ∈ N, ∃ z ∈ gr N np (outE E), z.name = y := fun y hy => ⟨⟨y, np y, outE E y⟩, List.mem_map.mpr ⟨y, hy, rfl⟩, rfl⟩
     refine ⟨hl, fun y hy => mem y (I.d y hy).1, mem t h1, fun z hz' => ?_, h3⟩
     refine xEA (List.mem_map.mp hz') fun y hy zz5 => ?_; subst zz5
     refine ⟨?_, fun x hx => mem x (hE _ (outE_mem.mp hx)).2⟩
     have := outE_len E y
     show (outE E y).length ≤ 100
     lia
   refine xAAAA base fun b1 b2 b3 b4 b5 => ?_
   rcases Nat.eq_zero_or_pos (pend E dn t) with hp | hp
   · have hm1 : npOf (gOut (gr N np (outE E)) rd) t = -1 := by
       rw [hnp]
       rcases I.c t h1 h2 hp with ⟨q1, q2⟩ | ⟨q1, q2⟩
       · rw [if_pos q2]
       · rw [if_neg q2]; exact q1
     obtain ⟨np', rd', e, I'⟩ := I.step hE h1 h2 hp
     have hl' : rd'.length ≤ 900 := by
       have := next_rd_len (N := N) (E := E) (np := np) (rd := rd) (po := po) (nf := nf) h1
       rw [e] at this
       have h5 : rd'.length ≤ E.length := this
       lia
     refine xA (run_seq hE hz r (t :: dn) np' rd' (po + rd.length) (nf + 1) I' hnd.2 (fun x hx => by
       refine xAA (hin x (.tail _ hx)) fun q1 q2 q3 => ⟨q1, ?_, q3⟩
       simp only [List.mem_cons, not_or]
       exact ⟨fun z => hnd.1 (z ▸ hx), q2⟩) (fun x hx => by
       rcases hall x hx with h | h
       · exact .inl (.tail _ h)
       · rcases List.mem_cons.mp h with rfl | h
         · exact .inl (.head _)
         · exact .inr h) hl') fun r1 r2 => ?_
     refine ⟨⟨b1, b2, b3, b4, b5, .inl hm1, fun zw => ?_⟩, ?_⟩
     · rw [e]; exact r1
     · rw [takenRun, if_pos hm1, e, r2, SeqOK]
       constructor
       · intro h; exact ⟨pend_zero.mp hp, h⟩
       · exact fun h => h.2
   · have htr : t ∉ rd := fun z => by have := (I.d t z).2.2.1; lia
     have hb := I.b t h1 h2 hp
     have hne : ¬ npOf (gOut (gr N np (outE E)) rd) t = -1 := by rw [hnp, if_neg htr]; lia
     refine ⟨⟨b1, b2, b3, b4, b5, .inr (by show 0 ≤ npOf (gOut (gr N np (outE E)) rd) t; rw [hnp, if_neg htr]; lia), fun z => (hne z).elim⟩, ?_⟩
     rw [takenRun, if_neg hne, SeqOK]
     constructor
     · intro z; exact xft z
     · intro z
       have := pend_zero.mpr z.1
       lia
theorem ready_mem {N : List Str} {E : Edg} (x : Str) : x ∈ readyOf (gE N E) ↔ x ∈ N ∧ inE E x = 0 := by
 unfold readyOf gE gr
 simp only [List.mem_map, List.mem_filter, decide_eq_true_eq]
 constructor
 · intro zz6; refine xEA zz6 fun z zz7 zz8 => ?_; obtain ⟨⟨y, hy, rfl⟩, h⟩ := zz7; subst zz8; exact ⟨hy, h⟩
 · intro zz9; refine xA zz9 fun h1 h2 => ?_; exact ⟨_, ⟨⟨x, h1, rfl⟩, h2⟩, rfl⟩
theorem ready_nodup {E : Edg} : ∀ {N : List Str}, N.Nodup → (readyOf (gE N E)).Nodup
 | [], _ => .nil
 | x :: N, h => by
   rw [List.nodup_cons] at h
   have ih := ready_nodup (E := E) h.2
   have e : readyOf (gE (x :: N) E) = if inE E x = 0 then x :: readyOf (gE N E) else readyOf (gE N E) := by
     unfold readyOf gE gr
     rw [List.map_cons, List.filter_cons]
     by_cases hx : inE E x = 0
     · simp [hx]
     · simp [hx]
   rw [e]
   split
   · rw [List.nodup_cons]
     exact ⟨fun z => h.1 ((ready_mem x).mp z).1, ih⟩
   · exact ih
theorem inv_start {N : List Str} {E : Edg} (hN : N.Nodup) : Inv N E [] (inE E) (readyOf (gE N E)) := by
 have hp : ∀ x, (pend E [] x : Int) = inE E x := fun x => by
   unfold pend inE
   simp
 refine ⟨fun x hx => (by cases hx), fun x zw zw zw => (hp x).symm, fun x hx zw h0 => .inl ⟨?_, ?_⟩, ready_nodup hN, fun x hx => ?_⟩
 · rw [← hp, h0]; rfl
 · exact (ready_mem x).mpr ⟨hx, by rw [← hp, h0]; rfl⟩
 · refine xA ((ready_mem x).mp hx) fun h1 h2 => ?_
   have := hp x
   exact ⟨h1, by simp, by lia, h2⟩
noncomputable def W (l : List Nat) : Str := ⟨l.toArray⟩
theorem W_inj {l m : List Nat} (h : W l = W m) : l = m := by
 have := congrArg (fun x : Str => x.cps.toList) h
 simpa [W] using this
theorem W_add (l m : List Nat) : W l ++ W m = W (l ++ m) := by
 show Str.mk _ = Str.mk _
 simp [W]
theorem W_len (l : List Nat) : (W l).length = l.length := by
 show l.toArray.size = _
 simp
noncomputable def Asc (l : List Nat) : Prop := ∀ c ∈ l, c < 128
theorem W_asc {l : List Nat} (h : Asc l) : (W l).cps.all (· < 128) = true := by
 simp only [W, List.all_toArray, List.all_eq_true, decide_eq_true_eq]
 exact h
noncomputable abbrev wA (l : List Nat) : AV := .str (W l)
noncomputable abbrev cA (c : Nat) : AV := .str (W [c])
section
theorem iter_str {target : Expr} {l : List Nat} (ha : Asc l) : IterW p n b env target (wA l) (l.map cA) (fun zw => True) st := by
 intro A outer h₀ s hid v E P hA S hv K
 apply VR.onStr hv; intro t
 refine wpAny_pyIter_ascii (W_asc ha) (xA (S.pushH (s' := { s with heap := s.heap.push { cls := .type "str_ascii_iterator", data := .fields #[.str (W l) t, .int 0 0] } }) (o := { cls := .type "str_ascii_iterator", data := .fields #[.str (W l) t, .int 0 0] }) rfl rfl rfl rfl) fun hno S1 => (K _ _ (.ref s.heap.objs.size) [s.heap.objs.size] [_] (fun rest os => ∃ (i : Nat) (o : Obj), os = [o] ∧ o.cls = .type "str_ascii_iterator" ∧ o.data = .fields #[.str (W l) t, .int i 0] ∧ (l.map cA).drop i = rest) (.refl _) ?_ (by simpa using hno) rfl ⟨0, _, rfl, rfl, rfl, rfl⟩ S1))
 refine ⟨by simp, ?_, ?_, ?_⟩
 · intro v' r' os A' L' outer' h₁ s₁ st₁ hid' E' P' zz1 hh hf S1 kk hG K1; refine xEEAAA zz1 fun i o zz2 hc hd' hr => ?_; subst zz2
   replace S1 : Sat p L' outer' h₁ s₁ st₁ (upd hid' s.heap.objs.size (.raw o)) := S1
   refine xA (drop_cons hr) fun hx hr' => ?_
   rw [List.getElem?_map] at hx
   refine xEA (Option.map_eq_some_iff.mp hx) fun c hc1 hc2 => ?_
   subst hc2
   have ho := (S1.hidd _ _ (upd_same hid' s.heap.objs.size (HC.raw o))).1
   refine wpAny_pyNext_ascii_item ⟨o, ho, hc, hd'⟩ (c := c) (by simpa [W] using hc1) fun h' hit hs => ⟨_, rfl, (xEAA hit fun o' ho' hc' hd'' => (letOwned_other (nm := "str_ascii_iterator") ho' hc' (by decide) ?_))⟩
   have S2 := S1.setH (s' := { s₁ with heap := h', toks := s₁.toks + 1 }) (upd_same hid' s.heap.objs.size (HC.raw o)) hs ho' rfl rfl
   rw [upd_upd] at S2
   exact K1 _ _ [o'] _ (.refl _) ⟨i + 1, o', rfl, hc', hd'', hr'⟩ S2 (.str ..)
 · intro l' os A' L' outer' h₁ s₁ st₁ hid' E' P' zz3 hf S1 hP; refine xEEAAA zz3 fun i o zz4 hc hd' hr => ?_; subst zz4
   exact wpAny_pyIter_striter_ascii ⟨o, (S1.hidd _ _ (upd_same hid' s.heap.objs.size (HC.raw o))).1, hc, hd'⟩ hP
 · intro os A' L' outer' h₁ s₁ st₁ hid' E' P' zz5 hh hf S1 kk hG K1; refine xEEAAA zz5 fun i o zz6 hc hd' hr => ?_; subst zz6
   replace S1 : Sat p L' outer' h₁ s₁ st₁ (upd hid' s.heap.objs.size (.raw o)) := S1
   have ho := (S1.hidd _ _ (upd_same hid' s.heap.objs.size (HC.raw o))).1
   exact wpAny_pyNext_ascii_end hh ⟨o, ho, hc, hd'⟩ (by have := drop_nil hr; simp at this; simpa [W] using this) fun h' hs => ⟨rfl, (xA (S1.unhide (hf _ (.head _))) fun S2 u => (K1 _ _ (.refl _) (S2.extB (s' := { s₁ with heap := h' }) u hs rfl rfl)))⟩
theorem idx_str {value slice : Expr} {l : List Nat} {i : Int} {c : Nat} (h0 : 0 ≤ i) (hx : l[i.toNat]? = some c) (h : Q (cA c) st) (hs : isSlice slice = false := by rfl) (hi : i < 2 ^ 63 := by lia) :
   GV2 p n b env (wA l) (.int i) VR (subscriptTail value slice) Q X st :=
 GV2.mk fun zw zw zw zw zw zw zw zw S hv hu => by
   apply VR.onStr hv; intro zt
   apply VR.onInt hu; intro zt
   have hlt := (List.getElem?_eq_some_iff.mp hx).1
   exact tail_any (typeIs_str _ _ _) slot_str_getitem.lookup (getItem_str (c := c) (by simp only [Bool.or_eq_false_iff, decide_eq_false_iff_not]; lia) (by
     have hq : seqIndex? i (W l).length = some i.toNat := by
       rw [W_len]; unfold seqIndex?
       simp only [if_neg (show ¬ i < 0 by lia)]
       rw [if_pos (by simp only [Bool.and_eq_true, decide_eq_true_eq]; lia)]
     rw [hq]
     simpa [W] using hx) (NP.mk (S.of_eq rfl rfl rfl) (.refl _) (.str ..) h)) (subscripted_plain hs)
theorem strs_vrs {h : Heap} : ∀ {ys : List Str} {vs : List Value}, VRs h (ys.map .str) vs → StrsAre vs ys
 | [], _, r => by cases r; exact .nil
 | y :: ys, _, r => by
   cases r with | cons p q =>
   apply VR.onStr p; intro zt
   exact .cons _ _ (strs_vrs q)
theorem vrs_ofStrs {h : Heap} : ∀ {ys : List Str} {vs : List Value}, StrsAre vs ys → VRs h (ys.map .str) vs
 | _, _, .nil => .nil
 | _, _, .cons x t r => .cons (.str x t) (vrs_ofStrs r)
theorem glued_nil (l : List (List Nat)) : Txt.join (Str.ofString "") (l.map W) = W l.flatten := by
 have e : (Str.ofString "").cps = #[] := by decide +kernel
 have go : ∀ (l : List (List Nat)) (acc : Array Nat), (l.map W).foldl (fun acc p => acc ++ (Str.ofString "").cps ++ p.cps) acc = acc ++ l.flatten.toArray := by
   intro l
   induction l with
   | nil => intro acc; simp
   | cons x r ih => intro acc; rw [List.map_cons, List.foldl_cons, ih, e]; simp [W]
 show Str.mk _ = Str.mk _
 cases l with
 | nil => simp; rfl
 | cons x r => rw [List.map_cons, List.drop_one, List.tail_cons, go]; simp [W]
theorem call_join {a : AV} {l : List (List Nat)} (hl : IsL st.σ a (l.map wA)) (h : Q (wA l.flatten) st) (hz : (l.map List.length).sum ≤ 16777216) : CW p n b env (.builtin "str.join") [.str (Str.ofString ""), a] Q X st :=
 GF.mk fun zw zw zw s zw zw zw S hv => by
   refine xEEAA hv.two fun v u zz7 hv1 hu => ?_; subst zz7
   apply VR.onStr hv1; intro zt
   refine xEEEAA (hl.at S hu) fun y vs k zz8 e r => ?_; subst zz8
   have hS : StrsAre vs (l.map W) := strs_vrs (by rw [List.map_map]; exact r)
   have e0 : (Str.ofString "").length = 0 := by decide +kernel
   refine join_list (lst_is e) (by simpa using hS) (by rw [e0]; simp [Function.comp_def, W_len]; exact hz) fun t' k => ?_
   rw [glued_nil]
   exact NP.mk (S.of_eq rfl rfl rfl) (.refl _) (.str ..) h
theorem recv_str {x : Str} : RecvT p st (.str x) "str" := fun zw zw zw zw zw v S hv => by
 apply VR.onStr hv; intro zt
 exact ⟨typeIs_str _ _ _, fun x q => by cases q⟩
end
section
theorem Sat.adopt {L : Addr} {outer : List Env} {h₀ : Heap} {s : Shared} {hid : Hid} (S : Sat p L outer h₀ s st hid) {a : Addr} {o : AObj} {ob : Obj} (u : Unt h₀ L st hid a) (e : s.heap.get? a = some ob) (ok : OOK p h₀ s.heap a o) : Sat p L outer h₀ s (st.put a o) hid :=
 ((S.hide u e).unhideO (priv_false.mp u.2).2.2 ok S.out).2
theorem call_list_strM {l : List Nat} (hb : b ≠ .handler) (h : ∀ D, st.σ D = none → Q (.ref D) (st.put D (.list (l.map cA)))) (hz : l.length ≤ 16777216) : CW p n b env (.type "list") [wA l] Q X st :=
 GF.mk fun A outer h₀ s hid vs hA S hv => by
   refine xEA hv.one fun v zz1 hv1 => ?_; subst zz1
   apply VR.onStr hv1; intro t
   have hsz : (W l).cps.size = l.length := W_len l
   refine call_list_str (hA.handled hb) (W l) t (fun h' tk acc c hk ho hI => (xA hI fun i1 i2 => ?_)) (by rw [hsz, sizeLine_val]; exact hz)
   have S1 := S.grow (s' := { s with heap := h', toks := tk }) hk rfl S.gens
   have u := unt_ge S (Nat.le_refl s.heap.objs.size)
   have hv : VRs h₀ (l.map cA) acc.toList := by
     have := vrs_strs (h := h₀) (l.map fun c => W [c]) acc.toList (by rw [Array.length_toList, i1, hsz, List.length_map]) (fun j v hj => by
       refine xEEA (i2 j v (by simpa using hj)) fun c t' e1 e2 => ?_
       exact ⟨_, t', e2, by rw [List.getElem?_map]; simp [W] at e1; rw [e1]; rfl⟩)
     rwa [List.map_map] at this
   exact NP.mk (S1.adopt (o := .list (l.map cA)) u ho ⟨acc.toList, c, by simpa using ho, hv⟩) (.refl _) (.ref _) (h _ (priv_false.mp u.2).2.1)
theorem eraseIdx_vrs {h : Heap} : ∀ {l : List AV} {vs : List Value} (k : Nat), VRs h l vs → VRs h (l.eraseIdx k) (vs.eraseIdx k)
 | [], _, _, r => by apply VRs.onNil r; exact .nil
 | a :: l, _, k, r => by
   apply VRs.onCons r; intro zv zvs p q
   cases k with
   | zero => exact q
   | succ k => exact .cons p (eraseIdx_vrs k q)
theorem call_popAt {d : Addr} {l : List AV} {i : Int} {a : AV} (e : st.σ d = some (.list l)) (h0 : 0 ≤ i) (ha : l[i.toNat]? = some a) (h : Q a (st.put d (.list (l.eraseIdx i.toNat)))) (hz : l.length ≤ 16777216) : CW p n b env (.builtin "list.pop") [.ref d, .int i] Q X st :=
 GF.mk fun zw zw zw s zw zw zw S hv => by
   refine xEEAA hv.two fun v u zz2 hv1 hu => ?_; subst zz2
   apply VR.onRef hv1
   apply VR.onInt hu; intro t
   refine xEEA ((S.obj _ _ e).1) fun vs k e1 r => (xEA (r.get ha) fun y e2 e3 => ?_)
   have hlt : i.toNat < vs.length := (List.getElem?_eq_some_iff.mp e2).1
   have hll := r.length
   have hq : seqIndex? i vs.toArray.size = some i.toNat := by
     unfold seqIndex?
     simp only [if_neg (show ¬ i < 0 by lia)]
     rw [if_pos (by simp only [Bool.and_eq_true, decide_eq_true_eq, List.size_toArray]; lia)]
   refine call_meets F.slot_list_pop ⟨_, e1, rfl⟩ F.entry_list_pop (F.args_list_pop_2 _ _) (MeetsSeq.list_pop_at _ vs.toArray k i t i.toNat y (by unfold Builtin.List.listFitsIndex; simp; lia) hq (by simpa using e2) (by rw [List.size_toArray, r.length, sizeLine_val]; exact hz)) ⟨e1, ?_⟩
   refine NP.mk (S.setO (s' := { s with heap := s.heap.update d (Obj.mapSeq fun xs => xs.eraseIdxIfInBounds i.toNat) }) (ao' := .list (l.eraseIdx i.toNat)) e (Heap.SameBut.update ..) rfl rfl
     ⟨vs.eraseIdx i.toNat, (if ((vs.toArray.eraseIdxIfInBounds i.toNat).size == vs.toArray.size) = true then k else k + 1), (Heap.get?_update_self _ e1 rfl).trans ?_, eraseIdx_vrs _ r⟩) (.refl _) e3 h
   have : vs.toArray.eraseIdxIfInBounds i.toNat = (vs.eraseIdx i.toNat).toArray := by
     simp only [Array.eraseIdxIfInBounds, List.size_toArray, hlt, dif_pos, List.eraseIdx_toArray]
   show some (Obj.mapSeq _ (lstObj vs k)) = _
   unfold Obj.mapSeq
   simp only [this]
theorem count_strs (c : Nat) : ∀ l : List Nat, Spec.countIn (.str (W [c])) (l.map fun n => PyData.str (W [n])) = (l.count c : Nat)
 | [] => rfl
 | x :: r => by
   rw [List.map_cons, Spec.countIn, count_strs c r, List.count_cons]
   have : Spec.same (PyData.str (W [x])) (.str (W [c])) = (x == c) := same_sign x c
   rw [this]
   by_cases h : x = c <;> simp [h] <;> lia
theorem call_countL {a : AV} {l : List Nat} {c : Nat} (hl : IsL st.σ a (l.map cA)) (h : Q (.int (l.count c : Nat)) st) : CW p n b env (.builtin "list.count") [a, cA c] Q X st :=
 GF.mk fun zw zw zw s zw zw zw S hv => by
   refine xEEAA hv.two fun v u zz3 hv1 hu => ?_; subst zz3
   apply VR.onStr hu; intro t
   refine xEEEAA (hl.at S hv1) fun y vs k zz4 e r => ?_; subst zz4
   have hS : StrsAre vs (l.map fun c => W [c]) := strs_vrs (by rw [List.map_map]; exact r)
   refine count_list_strs (lst_is e) hS ?_
   rw [List.map_map]
   have := count_strs c l
   rw [show ((PyData.str ∘ fun c => W [c]) : Nat → PyData) = fun n => PyData.str (W [n]) from rfl, this]
   exact NP.mk (S.of_eq rfl rfl rfl) (.refl _) (.int ..) h
theorem call_countS {l : List Nat} {c : Nat} (h : Q (.int (l.count c : Nat)) st) : CW p n b env (.builtin "str.count") [wA l, cA c] Q X st :=
 GF.mk fun zw zw zw s zw zw zw S hv => by
   refine xEEAA hv.two fun v u zz5 hv1 hu => ?_; subst zz5
   apply VR.onStr hv1; intro zt
   apply VR.onStr hu; intro zt
   refine SC.count ?_
   have e : Txt.count (W l) (W [c]) = (l.count c : Nat) := by
     have := count_is (W l) c
     rw [← count_strs c l]
     simpa [W] using this
   rw [e]
   exact NP.mk (S.of_eq rfl rfl rfl) (.refl _) (.int ..) h
theorem in_strW {l : List Nat} {c : Nat} (h : Q (.bool (decide (c ∈ l))) st) : GV2 p n b env (cA c) (wA l) VR (compareOp .In) Q X st :=
 GV2.mk fun zw zw zw zw zw zw zw zw S hv hu => by
   apply VR.onStr hv; intro zt
   apply VR.onStr hu; intro zt
   refine P.in_str ?_
   have := PySem.StrLaws.found_one (W l) c
   have e : (!(Builtin.Str.occurrences (W l) (W [c]) 0 (W l).length 1).isEmpty) = decide (c ∈ l) := by
     refine Eq.trans ?_ (this.trans ?_)
     · rfl
     · rfl
   rw [e]
   exact NP.mk (S.of_eq rfl rfl rfl) (.refl _) (.bool ..) h
end
section
theorem slice_mid (l : List Nat) {i j : Nat} (h : i ≤ j) (hj : j ≤ l.length) : Txt.slice (W l) (some (i : Int)) (some (j : Int)) = W ((l.drop i).take (j - i)) :=
 StrLaws.sliceText_nat (W l) h (by rw [W_len]; exact hj)
theorem slice_upto (l : List Nat) {j : Nat} (hj : j ≤ l.length) : Txt.slice (W l) none (some (j : Int)) = W (l.take j) := by
 have e : Txt.slice (W l) none (some (j : Int)) = Txt.slice (W l) (some ((0 : Nat) : Int)) (some (j : Int)) := by
   show StrLaws.sliceText _ _ _ = StrLaws.sliceText _ _ _
   unfold StrLaws.sliceText; rw [StrLaws.sliceIdx_none_lo]; rfl
 rw [e, slice_mid l (Nat.zero_le _) hj, List.drop_zero, Nat.sub_zero]
theorem slice_from (l : List Nat) {i : Nat} (hi : i ≤ l.length) : Txt.slice (W l) (some (i : Int)) none = W (l.drop i) := by
 have e : Txt.slice (W l) (some (i : Int)) none = Txt.slice (W l) (some (i : Int)) (some (l.length : Int)) := by
   show StrLaws.sliceText _ _ _ = StrLaws.sliceText _ _ _
   unfold StrLaws.sliceText; rw [StrLaws.sliceIdx_none_hi, W_len]
 rw [e, slice_mid l hi (Nat.le_refl _), List.take_of_length_le (by rw [List.length_drop]; exact Nat.le_refl _)]
theorem cutW_upto {l : List Nat} {j : Nat} (hj : j ≤ l.length) (h : Q (wA (l.take j)) st) (hz : l.length ≤ 16777216) : CutW p n b env (wA l) .none (.int (j : Nat)) Q X st :=
 cut_str .none (.int _) (by rw [slice_upto l hj]; exact h) (by rw [W_len]; exact hz)
theorem cutW_from {l : List Nat} {i : Nat} (hi : i ≤ l.length) (h : Q (wA (l.drop i)) st) (hz : l.length ≤ 16777216) : CutW p n b env (wA l) (.int (i : Nat)) .none Q X st :=
 cut_str (.int _) .none (by rw [slice_from l hi]; exact h) (by rw [W_len]; exact hz)
theorem cutW_mid {l : List Nat} {i j : Nat} (hi : i ≤ j) (hj : j ≤ l.length) (h : Q (wA ((l.drop i).take (j - i))) st) (hz : l.length ≤ 16777216) : CutW p n b env (wA l) (.int (i : Nat)) (.int (j : Nat)) Q X st :=
 cut_str (.int _) (.int _) (by rw [slice_mid l hi hj]; exact h) (by rw [W_len]; exact hz)
theorem addW {l m : List Nat} (h : Q (wA (l ++ m)) st) (hz : l.length + m.length ≤ 16777216) : GV2 p n b env (wA l) (wA m) VR (binaryOp .Add) Q X st :=
 add_str (by rw [W_add]; exact h) (by rw [W_len, W_len]; exact hz)
theorem eqW {l m : List Nat} (h : Q (.bool (decide (l = m))) st) : GV2 p n b env (wA l) (wA m) VR (compareOp .Eq) Q X st :=
 eq_str (by
   have : (W l == W m) = decide (l = m) := by
     by_cases q : l = m
     · subst q; simp
     · rw [decide_eq_false q]; exact beq_eq_false_iff_ne.mpr fun z => q (W_inj z)
   rw [this]; exact h)
theorem neW {l m : List Nat} (h : Q (.bool (!decide (l = m))) st) : GV2 p n b env (wA l) (wA m) VR (compareOp .NotEq) Q X st :=
 ne_str (by
   have : (W l != W m) = !decide (l = m) := by
     unfold bne
     congr 1
     by_cases q : l = m
     · subst q; simp
     · rw [decide_eq_false q]; exact beq_eq_false_iff_ne.mpr fun z => q (W_inj z)
   rw [this]; exact h)
theorem pow2_int {k : Nat} (hk : k ≤ 20) (h : Q (.int (2 ^ k : Nat)) st) : GV2 p n b env (.int 2) (.int (k : Nat)) VR (binaryOp .Pow) Q X st :=
 GV2.mk fun zw zw zw zw zw zw zw zw S hv hu => by
   apply VR.onInt hv; intro zt
   apply VR.onInt hu; intro zt
   have fin : ∀ t' k', NP p env.locals _ _ _ VR Q (.int ((2 : Int) ^ k) t') { (_ : Shared) with toks := k' } := fun t' k' => by
     have e : ((2 : Int) ^ k) = ((2 ^ k : Nat) : Int) := by rfl
     rw [e]
     exact NP.mk (S.of_eq rfl rfl rfl) (.refl _) (.int ..) h
   by_cases h0 : k = 0
   · subst h0
     exact AutoIntOps.pow_0 (by decide) (by decide) (fin _ _)
   · refine AutoIntOps.pow_4 (by lia) (by simp; lia) (by decide) (by decide) ?_ (by show NP _ _ _ _ _ _ _ (Value.int ((2 : Int) ^ ((k : Int).toNat)) _) _; rw [Int.toNat_natCast]; exact fin _ _)
     have hb : Builtin.Int.intBits 2 = 2 := by decide +kernel
     rw [hb]
     unfold Builtin.Int.intTooBig bitsLine
     simp only [decide_eq_true_eq]
     lia
theorem notin_set {d : Addr} {T : Str → Bool} {m : Nat} {k : Str} (e : st.σ d = some (.set T m)) (h : Q (.bool (!T k)) st) : GV2 p n b env (.str k) (.ref d) VR (compareOp .NotIn) Q X st :=
 GV2.mk fun zw zw zw zw zw zw zw zw S hv hu => by
   apply VR.onStr hv; intro zt
   apply VR.onRef hu
   have e1 : Heap.SetOf (PySem.strKind p.prog p.w) _ _ _ _ := (S.obj _ _ e).1
   exact wpAny_notInSet_of (is_str _ _) rfl e1 (NP.mk (S.of_eq rfl rfl rfl) (.refl _) (.bool _) h)
theorem notin_dict {d : Addr} {es : List (Str × AV)} {ep : Nat} {k : Str} (e : st.σ d = some (.dict es ep)) (h : Q (.bool (!(aget es k).isSome)) st) : GV2 p n b env (.str k) (.ref d) VR (compareOp .NotIn) Q X st :=
 GV2.mk fun zw zw zw zw zw zw zw zw S hv hu => by
   apply VR.onStr hv; intro zt
   apply VR.onRef hu
   refine xEAA ((S.obj _ _ e).1) fun ds e1 r z => (wpAny_notIn_of (is_str _ _) z e1.dictOf.mapOf ?_)
   have hg := r.get k
   cases q : aget es k with
   | none => rw [hg.2 q]; exact NP.mk (S.of_eq rfl rfl rfl) (.refl _) (.bool _) (by rw [q] at h; exact h)
   | some a =>
     refine xEA (hg.1 a q) fun v e2 zw => ?_
     rw [e2]; exact NP.mk (S.of_eq rfl rfl rfl) (.refl _) (.bool _) (by rw [q] at h; exact h)
noncomputable abbrev itemsObj (d : Addr) : Obj := { cls := .type "dict_items", data := .fields #[.ref d] }
theorem call_items {d : Addr} {es : List (Str × AV)} {ep : Nat} (e : st.σ d = some (.dict es ep)) (h : ∀ v, st.σ v = none → Q (.ref v) (st.put v (.raw (itemsObj d)))) : CW p n b env (.builtin "dict.items") [.ref d] Q X st :=
 GF.mk fun zw zw zw s zw zw zw S hv => by
   refine xEA hv.one fun v zz1 hv1 => ?_; subst zz1
   apply VR.onRef hv1
   exact xEAA ((S.obj _ _ e).1) fun ds D r z => (xA (S.pushO (s' := { s with heap := s.heap.push (itemsObj d) }) (.raw (itemsObj d)) rfl rfl rfl (Heap.get?_push_size _ rfl)) fun f S' => (call_meetsIn F.slot_dict_items D.dictOf.typeIs F.entry_dict_items (F.args_dict_items_1 _) (meets_dict_items (PySem.strKind p.prog p.w) d z) ⟨⟨_, D.dictOf⟩, NP.mk S' (.refl _) (.ref _) (h _ f)⟩))
noncomputable abbrev pitObj (d : Addr) (i m ep : Nat) (ok ov : Value) : Obj := { cls := .type "dict_itemiterator", dict := none, data := .fields #[.none, .bool false, .ref d, .int i 0, .int m 0, .int ep 0, ok, ov], slots := #[] }
noncomputable def pairA (x : Str × AV) : AV := .tup [.str x.1, x.2]
theorem iter_items {elts : List Expr} {x1 : Nat} {tp : Pos} {w d : Addr} {es : List (Str × AV)} {ep : Nat} (ew : st.σ w = some (.raw (itemsObj d))) (e : st.σ d = some (.dict es ep)) :
   IterW p n b env (.Tuple elts x1 tp) (.ref w) (es.map pairA) (fun σ => σ d = some (.dict es ep)) st := by
 intro A outer h₀ s hid v E P hA S hv K
 apply VR.onRef hv
 refine xEAA ((S.obj _ _ e).1) fun ds D r z => ?_
 have eW : s.heap.get? w = some (itemsObj d) := (S.obj _ _ ew).1
 have hl := r.length
 refine wpAny_pyIter_items ⟨_, eW, rfl, rfl⟩ D (xA (S.pushH (s' := { s with heap := s.heap.push (pitObj d 0 ds.length ep .none .none) }) (o := pitObj d 0 ds.length ep .none .none) rfl rfl rfl rfl) fun hno S1 => (K _ _ (.ref s.heap.objs.size) [s.heap.objs.size] [_] (fun rest os => ∃ (i : Nat) (ok ov : Value), os = [pitObj d i es.length ep ok ov] ∧ (es.drop i).map pairA = rest) (.refl _) ?_ (by simpa using hno) rfl ⟨0, .none, .none, by rw [hl], rfl⟩ S1))
 refine ⟨by simp, ?_, ?_, ?_⟩
 · intro v' r' os A' L' outer' h₁ s₁ st₁ hid' E' P' zz2 hh hf S1 kk hG K1; refine xEEEA zz2 fun i ok ov zz3 hr => ?_; subst zz3
   replace S1 : Sat p L' outer' h₁ s₁ st₁ (upd hid' s.heap.objs.size (.raw (pitObj d i es.length ep ok ov))) := S1
   refine xEAA ((S1.obj _ _ hG).1) fun ds' D' r1 z' => ?_
   have hl' := r1.length
   cases hq : es.drop i with
   | nil => rw [hq] at hr; exact xnc hr
   | cons kv rest =>
     rw [hq] at hr
     simp only [List.map_cons, List.cons.injEq] at hr
     refine xA hr fun hr1 hr2 => (xA (drop_cons hq) fun hx hr' => ?_)
     obtain ⟨k, a⟩ := kv
     refine xEA (r1.at hx) fun u hu1 hu2 => ?_
     have ho : s₁.heap.get? s.heap.objs.size = some (pitObj d i es.length ep ok ov) := (S1.hidd _ _ (upd_same hid' s.heap.objs.size (HC.raw _))).1
     rw [← hl'] at ho
     refine wpAny_pyNext_items_item ho D' hu1 fun key h3 hkey hout htup hsz hk3 => ⟨_, rfl, (wpAny_letOwnedTupleGo_items hout fun h4 he4 hs4 => ?_)⟩
     refine xE (Value.isStrOf_shape hkey) fun t zz4 => ?_; subst zz4
     have hlt : s.heap.objs.size < s₁.heap.objs.size := Heap.lt_size ho
     refine xA (S1.unhide (hf _ (.head _))) fun S5 un => ?_
     have S6 : Sat p L' outer' h₁ { s₁ with heap := h4 } st₁ hid' := S5.agree (s' := { s₁ with heap := h4 }) (fun a o q nu => by
       have na : a ≠ s.heap.objs.size := fun z => nu (z ▸ un)
       exact (hs4.2 a na).trans (hk3 a o na q)) rfl rfl
     have he4' : h4.get? s.heap.objs.size = some (pitObj d (i + 1) es.length ep (.str k t) u) := by rw [← hl']; exact he4
     have S7 := S6.hide un he4'
     refine xA S7.refreeze fun k8 S8 => ?_
     refine K1 _ _ [pitObj d (i + 1) es.length ep (.str k t) u] _ k8 ⟨i + 1, _, _, rfl, by rw [hr']; exact hr2⟩ S8 ?_
     rw [← hr1]
     refine .tup (vs := [.str k t, u]) (n := 0) ?_ (.cons (.str ..) (.cons (hu2.mono k8) .nil))
     rw [mask_get]
     have np : priv L' st₁ (upd hid' s.heap.objs.size (.raw (pitObj d (i + 1) es.length ep (.str k t) u))) s₁.heap.objs.size = false := by
       have un2 := unt_ge S1 (Nat.le_refl s₁.heap.objs.size)
       refine xAA (priv_false.mp un2.2) fun q1 q2 q3 => (priv_false.mpr ⟨q1, q2, ?_⟩)
       rw [upd_ne _ _ (Nat.ne_of_gt hlt)] at q3 ⊢
       exact q3
     rw [np]
     exact (hs4.2 _ (Nat.ne_of_gt hlt)).trans htup
 · intro l' os A' L' outer' h₁ s₁ st₁ hid' E' P' zz5 hf S1 hP; refine xEEEA zz5 fun i ok ov zz6 hr => ?_; subst zz6
   exact kcp_self (S1.hidd _ _ (upd_same hid' s.heap.objs.size (HC.raw (pitObj d i es.length ep ok ov)))).1 hP
 · intro os A' L' outer' h₁ s₁ st₁ hid' E' P' zz7 hh hf S1 kk hG K1; refine xEEEA zz7 fun i ok ov zz8 hr => ?_; subst zz8
   replace S1 : Sat p L' outer' h₁ s₁ st₁ (upd hid' s.heap.objs.size (.raw (pitObj d i es.length ep ok ov))) := S1
   refine xEAA ((S1.obj _ _ hG).1) fun ds' D' r1 z' => ?_
   have hl' := r1.length
   have ho : s₁.heap.get? s.heap.objs.size = some (pitObj d i es.length ep ok ov) := (S1.hidd _ _ (upd_same hid' s.heap.objs.size (HC.raw _))).1
   rw [← hl'] at ho
   have hn : ds'[i]? = none := by
     have : es.drop i = [] := by simpa using hr
     rw [List.drop_eq_nil_iff] at this
     rw [List.getElem?_eq_none_iff]; lia
   exact wpAny_pyNext_items_end hh ho D' hn fun h' hs => ⟨rfl, (xA (S1.unhide (hf _ (.head _))) fun S2 u => (K1 _ _ (.refl _) (S2.extB (s' := { s₁ with heap := h' }) u hs rfl rfl)))⟩
end
noncomputable def Source (prog : Program) (w : World) (x : Value) (ss : List Str) (s : Shared) : Prop := ∀ {A : Around} {P : List Value → Shared → Prop} {E : Value → Shared → Prop}, A.handled = none →
 (∀ vs ss' s1, StrsAre vs ss' → ss'.Perm ss → Sub s.heap s1.heap → s1.os = s.os → s1.gens = s.gens → P vs s1) → wpAny (model prog w) A (collect x) P E s
theorem sorted_src {prog : Program} {w : World} {A : Around} {E : Value → Shared → Prop} {s : Shared} {x : Value} {ss : List Str} {Q : Value → Shared → Prop} (hh : A.handled = none) (hc : Source prog w x ss s) (h64 : ss.length < 64)
   (h : ∀ D s1 vs k ss', (∀ a o, s.heap.get? a = some o → a ≠ D) → s1.heap.get? D = some (lstObj vs k) → StrsAre vs ss' → ss'.Perm ss → sortedS ss' = true → Sub s.heap s1.heap → s1.os = s.os → s1.gens = s.gens → Q (.ref D) s1) :
   wpAny (model prog w) A (call (.builtin "sorted") [x]) Q E s := by
 refine Calls.call_function_entry kind_sorted plain_sorted entry_sorted (args_sorted1 _) ?_
 unfold Builtin.«sorted»
 refine wpAny_bind (m := checkCount "sorted" 1 1 _) (wpAny_pure (wpAny_bind (hc (by exact hh) fun vs ss1 s1 hS hp k ho hg => ?_)))
 have hlen : vs.length < 64 := by rw [StrsAre.length hS, hp.length_eq]; exact h64
 refine wpAny_bind (wpAny_newList ?_ (by rw [sizeLine_val]; lia))
 have hoL : (s1.heap.push (seqObj "list" vs.toArray 0)).get? s1.heap.objs.size = some (seqObj "list" vs.toArray 0) := Heap.get?_push_size _ rfl
 refine wpAny_bind (wpAny_holding (wpAny_call_entry slot_list_sort ⟨_, hoL, rfl⟩ entry_list_sort (list_sort_treeK strKind_oneLt hoL hS.keysOf (fun v₁ v₂ rest e => keyKind_strs (by rw [← e]; exact hS)) hlen fun st' a1 a2 => ⟨_, rfl, (xEAA (sorted_out_str hS a1 a2) fun ss' h1 h2 h3 => (xE (sortedHeap_at (out := (arrOf st').map (·.2)) hoL) fun e he => ?_))⟩) (args_list_sort _)))
 have kk : Sub s1.heap (sortedHeap (s1.heap.push (seqObj "list" vs.toArray 0)) s1.heap.objs.size vs ((arrOf st').map (·.2))) := fun b o q => by
   rw [sortedHeap_old (Nat.ne_of_lt (Heap.lt_size q)) (by rw [size_push']; exact Nat.lt_succ_of_lt (Heap.lt_size q))]
   exact Heap.get?_push_of_some _ q
 exact wpAny_pure ⟨_, rfl, h s1.heap.objs.size _ _ e ss' (fun a o q => Nat.ne_of_lt (Heap.lt_size (k a o q))) he h1 (h2.trans hp) h3 (k.trans kk) ho hg⟩
section
theorem Sat.privThere {L : Addr} {outer : List Env} {h₀ : Heap} {s : Shared} {hid : Hid} (S : Sat p L outer h₀ s st hid) {a : Addr} (h : priv L st hid a = true) : ∃ o, s.heap.get? a = some o := by
 unfold priv at h
 simp only [Bool.or_eq_true, beq_iff_eq] at h
 rcases h with (rfl | e) | e
 · refine xEA S.loc fun m zz1 _ => ?_; obtain ⟨o, _, _, e, _⟩ := zz1; exact ⟨o, e⟩
 · exact xE (Option.isSome_iff_exists.mp e) fun o q => ((S.obj a o q).1.there)
 · exact xE (Option.isSome_iff_exists.mp e) fun o q => ((S.hidd a o q).1.there)
theorem call_sorted {a : AV} {ss : List Str} (hb : b ≠ .handler) (hsrc : ∀ L outer h₀ s hid v, Sat p L outer h₀ s st hid → VR h₀ a v → Source p.prog p.w v ss s) (h64 : ss.length < 64)
   (h : ∀ ss', ss'.Perm ss → sortedS ss' = true → Q (.lst (ss'.map .str)) st) : CW p n b env (.builtin "sorted") [a] Q X st :=
 GF.mk fun A outer h₀ s hid vs hA S hv => by
   refine xEA hv.one fun v zz2 hv1 => ?_; subst zz2
   refine sorted_src (hA.handled hb) (hsrc _ _ _ _ _ _ S hv1) h64 fun D s1 vs k ss' hD he hS hp hs kk ho hg => ?_
   have S1 := S.grow (s' := s1) kk ho (hg ▸ S.gens)
   refine xA S1.refreeze fun k2 S2 => (NP.mk S2 k2 (.lst (vs := vs) (n := k) ?_ (vrs_ofStrs hS)) (h ss' hp hs))
   rw [mask_get]
   have np : priv env.locals st hid D = false := by
     cases q : priv env.locals st hid D with
     | false => rfl
     | true => refine xE (S.privThere q) fun o e => ?_; exact (hD D o e rfl).elim
   rw [np]; exact he
theorem source_list {a : AV} {ss : List Str} (hl : IsL st.σ a (ss.map .str)) (hz : ss.length ≤ 16777216) : ∀ L outer h₀ s hid v, Sat p L outer h₀ s st hid → VR h₀ a v → Source p.prog p.w v ss s := fun L outer h₀ s hid v S hv A P E hh h => by
 refine xEEEAA (hl.at S hv) fun y vs k zz3 e r => ?_; subst zz3
 exact wpAny_collect_seq y (T := "list") (.inl rfl) e rfl rfl (fun h' k => h vs ss _ (strs_vrs r) (.refl _) k rfl rfl) (by rw [List.size_toArray, r.length, List.length_map, sizeLine_val]; exact hz)
set_option tactic.hygienic true in
theorem source_tup {ss : List Str} (hz : ss.length ≤ 16777216) : ∀ L outer h₀ s hid v, Sat p L outer h₀ s st hid → VR h₀ (.tup (ss.map .str)) v → Source p.prog p.w v ss s := fun L outer h₀ s hid v S hv A P E hh h => by
 apply VR.onTup hv; intro y vs k e r
 exact wpAny_collect_seq y (T := "tuple") (.inr rfl) (S.sub _ _ e) rfl rfl (fun h' k => h vs ss _ (strs_vrs r) (.refl _) k rfl rfl) (by rw [List.size_toArray, r.length, List.length_map, sizeLine_val]; exact hz)
theorem source_str {l : List Nat} (hz : l.length ≤ 16777216) : ∀ L outer h₀ s hid v, Sat p L outer h₀ s st hid → VR h₀ (wA l) v → Source p.prog p.w v (l.map fun c => W [c]) s := fun L outer h₀ s hid v S hv A P E hh h => by
 apply VR.onStr hv; intro t
 have hsz : (W l).cps.size = l.length := W_len l
 refine wpAny_collect_str hh (W l) t (fun s' acc k hg hd ho hI => (xA hI fun i1 i2 => ?_)) (by rw [hsz, sizeLine_val]; exact hz)
 have hv : VRs h₀ ((l.map fun c => W [c]).map .str) acc.toList := vrs_strs (h := h₀) (l.map fun c => W [c]) acc.toList (by rw [Array.length_toList, i1, hsz, List.length_map]) (fun j v hj => by
     refine xEEA (i2 j v (by simpa using hj)) fun c t' e1 e2 => ?_
     exact ⟨_, t', e2, by rw [List.getElem?_map]; simp [W] at e1; rw [e1]; rfl⟩)
 exact h _ _ s' (strs_vrs hv) (.refl _) k ho hg
end
theorem set_order_slot : Slot "set_iterator" "__next__" "set_iterator.__next__" :=
 .of (owner := "set_iterator") (n := "__next__") (by rw [typeLookup_type, builtinLookup_eq_fast]; kernel_rfl) (by decide +kernel) (by decide +kernel) (by decide +kernel)
   (by first | exact .inl (by decide +kernel) | exact .inr (by decide +kernel)) (by rw [isSubtype_type]; kernel_rfl)
theorem set_order_entry : entryFor table "set_iterator.__next__" = some Builtin.«set_iterator.__next__» := entryFor_of_tree (by kernel_rfl)
theorem set_order_owner : Manifest.owners.lookup (String.ofList ['r', 'o', 't', 'a', 'r', 'e', 't', 'i', '_', 't', 'e', 's'].reverse) = some Manifest.sig_set_iterator := by kernel_rfl
theorem set_order_args (a : Value) : argsOk "set_iterator.__next__" ⟨[a], []⟩ := by
 unfold argsOk; rw [signature?_of (id := "set_iterator.__next__") (n := ['_', '_', 't', 'x', 'e', 'n', '_', '_']) (o := ['r', 'o', 't', 'a', 'r', 'e', 't', 'i', '_', 't', 'e', 's']) (by kernel_rfl) set_order_owner]; kernel_rfl
theorem set_iter_entry : entryFor table "set.__iter__" = some Builtin.«frozenset.__iter__» :=
 entryFor_alias (id' := "frozenset.__iter__") (by kernel_rfl) rfl (by decide +kernel) (by kernel_rfl)
section
variable {M : Model} {A : Around} {E : Value → Shared → Prop} {s : Shared}
theorem choose_wp {src : PySem.Source} {n : Nat} {Q : Nat → Shared → Prop} (hn : n ≠ 0) (h : ∀ i d, i < n → Q i { s with drawn := d }) : wpAny M A (choose src n) Q E s :=
 fun _ _ _ => ⟨hn, h _ _ (Nat.mod_lt _ (Nat.pos_of_ne_zero hn))⟩
theorem drawOrder_wp {α : Type} : ∀ (n : Nat) (xs : List α), xs.length ≤ n → ∀ {Q : List α → Shared → Prop} {s : Shared}, (∀ ys d, ys.Perm xs → Q ys { s with drawn := d }) → wpAny M A (drawOrder n xs) Q E s
 | 0, xs, hl, Q, s, h => by
   cases xs with
   | nil => exact wpAny_pure (h [] s.drawn (.refl _))
   | cons _ _ => simp at hl
 | n + 1, [], _, Q, s, h => wpAny_pure (h [] s.drawn (.refl _))
 | n + 1, x :: r, hl, Q, s, h => by
   unfold drawOrder
   refine wpAny_bind (choose_wp (by simp) fun i d hi => ?_)
   have e : (x :: r)[i]? = some ((x :: r)[i]) := List.getElem?_eq_getElem hi
   rw [e]
   refine wpAny_bind (drawOrder_wp n ((x :: r).eraseIdx i) (by rw [List.length_eraseIdx_of_lt hi]; simp at hl ⊢; omega) fun ys d' hp => wpAny_pure (h _ _ ((hp.cons _).trans ?_)))
   rw [List.eraseIdx_eq_take_drop_succ]
   refine List.perm_middle.symm.trans ?_
   rw [← List.drop_eq_getElem_cons hi, List.take_append_drop]
theorem pick_perm {α : Type} (next : Nat → Nat) : ∀ (fuel k : Nat) (left : List α) (out : Array α), left.length ≤ fuel → (pickOrder.go next fuel k left out).toList.Perm (out.toList ++ left)
 | 0, k, left, out, h => by
   cases left with
   | nil => unfold pickOrder.go; simp
   | cons _ _ => simp at h
 | fuel + 1, k, left, out, h => by
   unfold pickOrder.go
   cases left with
   | nil => simp
   | cons x r =>
     have hi : next k % (x :: r).length < (x :: r).length := Nat.mod_lt _ (by simp)
     rw [List.getElem?_eq_getElem hi]
     refine (pick_perm next fuel (k + 1) _ _ (by rw [List.length_eraseIdx_of_lt hi]; simp at h ⊢; omega)).trans ?_
     rw [Array.toList_push, List.append_assoc, List.singleton_append]
     refine List.Perm.append_left _ ?_
     rw [List.eraseIdx_eq_take_drop_succ]
     refine List.perm_middle.symm.trans ?_
     rw [← List.drop_eq_getElem_cons hi, List.take_append_drop]
theorem pickOrder_perm {α : Type} (next : Nat → Nat) (xs : Array α) : (pickOrder next xs).toList.Perm xs.toList := by
 have := pick_perm next xs.size 0 xs.toList #[] (by simp)
 simpa [pickOrder] using this
end
theorem set_self_slot : Slot "set_iterator" "__iter__" "set_iterator.__iter__" :=
 .of (owner := "set_iterator") (n := "__iter__") (by rw [typeLookup_type, builtinLookup_eq_fast]; kernel_rfl) (by decide +kernel) (by decide +kernel) (by decide +kernel)
   (by first | exact .inl (by decide +kernel) | exact .inr (by decide +kernel)) (by rw [isSubtype_type]; kernel_rfl)
theorem set_self_entry : entryFor table "set_iterator.__iter__" = some Builtin.«dict_keyiterator.__iter__» :=
 entryFor_alias (id' := "dict_keyiterator.__iter__") (by kernel_rfl) rfl (by decide +kernel) (by kernel_rfl)
theorem set_self_args (a : Value) : argsOk "set_iterator.__iter__" ⟨[a], []⟩ := by
 unfold argsOk; rw [signature?_of (id := "set_iterator.__iter__") (n := ['_', '_', 'r', 'e', 't', 'i', '_', '_']) (o := ['r', 'o', 't', 'a', 'r', 'e', 't', 'i', '_', 't', 'e', 's']) (by kernel_rfl) set_order_owner]; kernel_rfl
noncomputable abbrev sitObj (first : Value) (i : Nat) (a : Addr) (n ep : Nat) : Obj := { cls := .type "set_iterator", dict := none, data := .fields #[first, .int i 0, .ref a, .int n 0, .int ep 0], slots := #[] }
section
variable {prog : Program} {w : World} {A : Around} {E : Value → Shared → Prop} {s : Shared}
theorem set_self {I a : Addr} {first : Value} {i n ep : Nat} {Q : Value → Shared → Prop} (ho : s.heap.get? I = some (sitObj first i a n ep)) (h : Q (.ref I) s) : wpAny (model prog w) A (pyIter (.ref I)) Q E s := by
 have hT : s.TypeIs (.ref I) "set_iterator" := ⟨_, ho, rfl⟩
 refine wpAny_pyIter_slot hT set_self_slot (wpAny_call_entry set_self_slot hT set_self_entry ?_ (set_self_args _))
 show wpAny _ _ (ret (.ref I)) _ _ s
 exact wpAny_pure ⟨_, rfl, "set_iterator", _, hT, set_order_slot.lookup, h⟩
structure SetIs (w : World) (o : Obj) (es : Array (Int × Value)) (ep : Nat) (t : SetTable) : Prop where
 ex : o.ExactSet
 data : o.data = .set es ep t
 fits : t.fits es.size = true
 led : w.params.followText "set-order" = false → t.led = true
 plain : es.size ≠ 0 → t.plain = false
theorem set_item_drawn {I a T : Addr} {i n ep j k : Nat} {o : Obj} {es : Array (Int × Value)} {t : SetTable} {pl : Array Value} {hx : Int} {x : Value} {Q : Option Value → Shared → Prop} (ho : s.heap.get? I = some (sitObj (.ref T) i a n ep)) (hs : s.heap.get? a = some o) (S : SetIs w o es ep t) (hn : es.size = n)
   (hT : s.heap.get? T = some { cls := .type "tuple", data := .seq pl k }) (hp : pl[i]? = some (.int j 0)) (he : es[j]? = some (hx, x))
   (h : ∀ h', h'.get? I = some (sitObj (.ref T) (i + 1) a n ep) → Heap.SameBut I s.heap h' → Q (some x) { s with heap := h' }) : wpAny (model prog w) A (pyNext (.ref I)) Q E s := by
 have hTy : s.TypeIs (.ref I) "set_iterator" := ⟨_, ho, rfl⟩
 unfold pyNext
 refine wpAny_bind (wpAny_attempt (wpAny_callSpecial?_slot (name := Str.ofString "__next__") hTy set_order_slot (wpAny_call_entry set_order_slot hTy set_order_entry ?_ (set_order_args _))))
 unfold Builtin.«set_iterator.__next__»
 refine wpAny_bind (m := slotArgs _ _ _) (wpAny_pure (wpAny_bind (wpAny_fieldsOf ho rfl ?_)))
 dsimp only
 refine wpAny_bind (wpAny_setEntries_of hs S.data S.fits ?_)
 rw [if_neg (by simp [hn])]
 refine wpAny_bind (wpAny_seqItems hT rfl ?_)
 dsimp only
 rw [Int.toNat_natCast, hp]
 dsimp only
 unfold setNextDrawn
 refine wpAny_bind (wpAny_bind (wpAny_setState_of hs S.data S.fits ?_))
 dsimp only
 rw [Int.toNat_natCast, Int.toNat_natCast, if_neg (by simp), he]
 exact wpAny_pure (wpAny_bind (wpAny_setField_rec ho (by simp) fun h' h1 h2 => (wpAny_pure ⟨_, rfl, wpAny_pure (h h' h1 h2)⟩)))
theorem set_item_walk {I a : Addr} {i n ep sl nx : Nat} {o : Obj} {es : Array (Int × Value)} {t : SetTable} {x : Value} {Q : Option Value → Shared → Prop} (ho : s.heap.get? I = some (sitObj (.int sl 0) i a n ep)) (hs : s.heap.get? a = some o) (S : SetIs w o es ep t) (hn : es.size = n)
   (hq : ∀ {A : Around} {R : Option (Value × Nat) → Shared → Prop} {E : Value → Shared → Prop}, R (some (x, nx)) s → wpAny (model prog w) A (setNext a sl i ep) R E s)
   (h : ∀ h', h'.get? I = some (sitObj (.int nx 0) (i + 1) a n ep) → Heap.SameBut I s.heap h' → Q (some x) { s with heap := h' }) : wpAny (model prog w) A (pyNext (.ref I)) Q E s := by
 have hTy : s.TypeIs (.ref I) "set_iterator" := ⟨_, ho, rfl⟩
 unfold pyNext
 refine wpAny_bind (wpAny_attempt (wpAny_callSpecial?_slot (name := Str.ofString "__next__") hTy set_order_slot (wpAny_call_entry set_order_slot hTy set_order_entry ?_ (set_order_args _))))
 unfold Builtin.«set_iterator.__next__»
 refine wpAny_bind (m := slotArgs _ _ _) (wpAny_pure (wpAny_bind (wpAny_fieldsOf ho rfl ?_)))
 dsimp only
 refine wpAny_bind (wpAny_setEntries_of hs S.data S.fits ?_)
 rw [if_neg (by simp [hn])]
 simp only [Int.toNat_natCast]
 refine wpAny_bind (hq ?_)
 dsimp only
 exact wpAny_bind (wpAny_setField_rec ho (by simp) fun h' h1 h2 => (wpAny_bind (wpAny_setField_rec (s := { s with heap := h' }) h1 (by simp) fun h'' h3 h4 => (wpAny_pure ⟨_, rfl, wpAny_pure (h h'' h3 (h2.trans h4))⟩))))
theorem stop_tail {I : Addr} {cls : Value} {vs : Array Value} {n : Nat} {P : Value → Shared → Prop} {Q : Option Value → Shared → Prop} (hh : A.handled = none) (ho : s.heap.get? I = some { cls := cls, dict := none, data := .fields vs, slots := #[] }) (hk : n < vs.size)
   (h : ∀ h', Heap.ExtBut I s.heap h' → Q none { s with heap := h' }) :
   wpAny (model prog w) A.in1 (do setField (.ref I) n .none; raiseNew (← newExc (.type "StopIteration") []) : Sem Fin) (fun fin s' => ∃ r, fin = .done (.ret r) ∧ P r s')
     (fun e s' => wpAny (model prog w) A (do if ← isInstance e (.type "StopIteration") then pure none else throw e) Q E s') s := by
 refine wpAny_bind (wpAny_setField_rec ho hk fun h' h1 h2 => (wpAny_bind ?_))
 simp only [newExc, newTuple]
 refine wpAny_bind (wpAny_newObj_type (wpAny_bind (m := firstArgMember _ _) (wpAny_of_eq (a := Value.none) (by first | rfl | (simp only [firstArgMember]; rfl)) (wpAny_newObj_type ?_ (by size_fits)))) (by size_fits))
 simp only [raiseNew]
 refine wpAny_bind (wpAny_handled ?_)
 rw [show A.in1.handled = none from hh]
 refine wpAny_bind (wpAny_pure (wpAny_throw ?_))
 refine wpAny_bind (wpAny_isInstance (T := "StopIteration") (b := true) ⟨_, Heap.get?_push_size _ rfl, rfl⟩ isSubtype_stop ?_)
 exact wpAny_pure (h _ ((h2.extBut.push _).push _))
theorem set_end_drawn {I a T : Addr} {i n ep k : Nat} {o : Obj} {es : Array (Int × Value)} {t : SetTable} {pl : Array Value} {Q : Option Value → Shared → Prop} (hh : A.handled = none) (ho : s.heap.get? I = some (sitObj (.ref T) i a n ep)) (hs : s.heap.get? a = some o) (S : SetIs w o es ep t) (hn : es.size = n)
   (hT : s.heap.get? T = some { cls := .type "tuple", data := .seq pl k }) (hp : pl[i]? = none)
   (h : ∀ h', Heap.ExtBut I s.heap h' → Q none { s with heap := h' }) : wpAny (model prog w) A (pyNext (.ref I)) Q E s := by
 have hTy : s.TypeIs (.ref I) "set_iterator" := ⟨_, ho, rfl⟩
 unfold pyNext
 refine wpAny_bind (wpAny_attempt (wpAny_callSpecial?_slot (name := Str.ofString "__next__") hTy set_order_slot (wpAny_call_entry set_order_slot hTy set_order_entry ?_ (set_order_args _))))
 unfold Builtin.«set_iterator.__next__»
 refine wpAny_bind (m := slotArgs _ _ _) (wpAny_pure (wpAny_bind (wpAny_fieldsOf ho rfl ?_)))
 dsimp only
 refine wpAny_bind (wpAny_setEntries_of hs S.data S.fits ?_)
 rw [if_neg (by simp [hn])]
 refine wpAny_bind (wpAny_seqItems hT rfl ?_)
 dsimp only
 rw [Int.toNat_natCast, hp]
 dsimp only
 exact wpAny_bind (wpAny_setField_rec ho (by simp) fun h' h1 h2 => (stop_tail (s := { s with heap := h' }) hh h1 (by simp) fun h'' h3 => h h'' fun b ob hb e => h3 b ob hb (h2.extBut b ob hb e)))
theorem set_end_walk {I a : Addr} {i n ep sl : Nat} {o : Obj} {es : Array (Int × Value)} {t : SetTable} {Q : Option Value → Shared → Prop} (hh : A.handled = none) (ho : s.heap.get? I = some (sitObj (.int sl 0) i a n ep)) (hs : s.heap.get? a = some o) (S : SetIs w o es ep t) (hn : es.size = n)
   (hq : ∀ {A : Around} {R : Option (Value × Nat) → Shared → Prop} {E : Value → Shared → Prop}, R none s → wpAny (model prog w) A (setNext a sl i ep) R E s)
   (h : ∀ h', Heap.ExtBut I s.heap h' → Q none { s with heap := h' }) : wpAny (model prog w) A (pyNext (.ref I)) Q E s := by
 have hTy : s.TypeIs (.ref I) "set_iterator" := ⟨_, ho, rfl⟩
 unfold pyNext
 refine wpAny_bind (wpAny_attempt (wpAny_callSpecial?_slot (name := Str.ofString "__next__") hTy set_order_slot (wpAny_call_entry set_order_slot hTy set_order_entry ?_ (set_order_args _))))
 unfold Builtin.«set_iterator.__next__»
 refine wpAny_bind (m := slotArgs _ _ _) (wpAny_pure (wpAny_bind (wpAny_fieldsOf ho rfl ?_)))
 dsimp only
 refine wpAny_bind (wpAny_setEntries_of hs S.data S.fits ?_)
 rw [if_neg (by simp [hn])]
 simp only [Int.toNat_natCast]
 refine wpAny_bind (hq ?_)
 dsimp only
 exact stop_tail hh ho (by simp) h
end
section
variable {prog : Program} {w : World} {A : Around} {E : Value → Shared → Prop} {s : Shared}
theorem byText_wp {Q : Bool → Shared → Prop} (h : Q (w.params.followText "set-order") s) : wpAny (model prog w) A setsByText Q E s := by
 unfold setsByText
 exact wpAny_bind (wpAny_askSetting (wpAny_pure h))
theorem below1 (j k : Nat) : SetTable.below #[j] k = if j < k then 1 else 0 := by
 unfold SetTable.below
 show SetTable.below.go #[j] k 1 0 1 = _
 unfold SetTable.below.go
 simp only [Nat.zero_lt_one, if_true]
 show (if (#[j] : Array Nat).getD 0 0 < k then SetTable.below.go #[j] k 0 1 1 else SetTable.below.go #[j] k 0 0 0) = _
 simp only [SetTable.below.go]
 rfl
noncomputable def SetWalk (prog : Program) (w : World) (D I : Addr) (es : Array (Int × Value)) (ord : List (Int × Value)) (s : Shared) (h' : Heap) : Prop :=
 ∃ fp St, I ∈ fp ∧ (∀ b ∈ fp, b = D ∨ s.heap.objs.size ≤ b) ∧ St 0 h' ∧ ∀ A : Around, A.handled = none → Walks prog w A I fp [I] es.size (fun i v => (ord[i]?).map (·.2) = some v) St
theorem set_iter_wp {D : Addr} {o : Obj} {es : Array (Int × Value)} {ep : Nat} {t : SetTable} {Q : Value → Shared → Prop} (hs : s.heap.get? D = some o) (S : SetIs w o es ep t) (hz : es.size ≤ 4000)
   (h : ∀ I h' d ord, ord.Perm es.toList → Sub s.heap h' → s.heap.objs.size ≤ I → I < h'.objs.size → SetWalk prog w D I es ord s h' → Q (.ref I) { s with heap := h', drawn := d }) :
   wpAny (model prog w) A (pyIter (.ref D)) Q E s := by
 have hTy : s.TypeIs (.ref D) "set" := ⟨o, hs, S.ex.1⟩
 have hD : D < s.heap.objs.size := Heap.lt_size hs
 refine wpAny_pyIter_slot hTy F.slot_set_iter (wpAny_call_entry F.slot_set_iter hTy set_iter_entry ?_ (F.args_set_iter_1 _))
 unfold Builtin.«frozenset.__iter__» Builtin.Frozenset.slot0
 refine wpAny_bind (m := do Builtin.Frozenset.addrOf (← slotArgs _ _ _).1) (wpAny_pure ?_)
 unfold Builtin.Frozenset.sizeOf
 refine wpAny_bind (wpAny_bind (wpAny_setEntries_of hs S.data S.fits (wpAny_pure ?_)))
 unfold setDrawn
 refine wpAny_bind (wpAny_bind (wpAny_setState_of hs S.data S.fits (wpAny_bind (byText_wp (wpAny_pure ?_)))))
 split
 · -- the order is drawn
   refine wpAny_bind (drawOrder_wp es.size (List.range es.size) (by simp) fun ys d hp => (wpAny_bind (wpAny_newTuple (wpAny_bind (wpAny_setEpoch_of (s := { s with heap := _, drawn := d }) (Heap.get?_push_of_some _ hs) S.data S.fits ?_)) (by simp [hp.length_eq]; rw [sizeLine_val]; lia))))
   unfold newFields
   refine wpAny_bind (wpAny_newObj_type (wpAny_pure ?_) (by show (5 : Nat) ≤ sizeLine + 2; decide))
   have hT0 : (s.heap.push { cls := .type "tuple", data := .seq (ys.map fun (i : Nat) => rawInt i).toArray }).get? s.heap.objs.size = some { cls := .type "tuple", data := .seq (ys.map fun (i : Nat) => rawInt i).toArray } := Heap.get?_push_size _ rfl
   have hsz : (s.heap.push { cls := .type "tuple", data := .seq (ys.map fun (i : Nat) => rawInt i).toArray }).objs.size = s.heap.objs.size + 1 := Heap.size_push ..
   have hk0 : Sub s.heap (s.heap.push { cls := .type "tuple", data := .seq (ys.map fun (i : Nat) => rawInt i).toArray }) := fun b ob e => Heap.get?_push_of_some _ e
   show ∃ r, _ = _ ∧ _
   generalize s.heap.push { cls := .type "tuple", data := .seq (ys.map fun (i : Nat) => rawInt i).toArray } = H1 at hT0 hsz hk0 ⊢
   have hT : (H1.push (sitObj (.ref s.heap.objs.size) 0 D es.size ep)).get? s.heap.objs.size = some { cls := .type "tuple", data := .seq (ys.map fun (i : Nat) => rawInt i).toArray } := Heap.get?_push_of_some _ hT0
   have hI : (H1.push (sitObj (.ref s.heap.objs.size) 0 D es.size ep)).get? H1.objs.size = some (sitObj (.ref s.heap.objs.size) 0 D es.size ep) := Heap.get?_push_size _ rfl
   have hlt : ∀ j ∈ ys, j < es.size := fun j hj => List.mem_range.mp (hp.mem_iff.mp hj)
   have hlen : ys.length = es.size := by rw [hp.length_eq, List.length_range]
   have hords : (ys.map fun j => es[j]?.getD (0, .none)).Perm es.toList := by
     refine (hp.map _).trans (List.Perm.of_eq (List.ext_getElem (by simp) fun k h1 h2 => ?_))
     have hk : k < es.size := by simpa using h2
     simp [hk]
   refine ⟨_, rfl, "set_iterator", _, ⟨_, hI, rfl⟩, set_order_slot.lookup, ?_⟩
   refine h H1.objs.size _ d _ hords (fun b ob e => Heap.get?_push_of_some _ (hk0 b ob e)) (by rw [hsz]; exact Nat.le_succ _) (Heap.lt_size hI) ⟨[H1.objs.size, s.heap.objs.size, D], fun i h => h.get? H1.objs.size = some (sitObj (.ref s.heap.objs.size) i D es.size ep) ∧ h.get? s.heap.objs.size = some { cls := .type "tuple", data := .seq (ys.map fun (i : Nat) => rawInt i).toArray } ∧ h.get? D = some o,
     by simp, fun b hb => ?_, ⟨hI, hT, Heap.get?_push_of_some _ (hk0 _ _ hs)⟩, fun A' hh => ?_⟩
   · simp only [List.mem_cons, List.not_mem_nil, or_false] at hb
     rcases hb with rfl | rfl | rfl
     · exact .inr (by rw [hsz]; exact Nat.le_succ _)
     · exact .inr (Nat.le_refl _)
     · exact .inl rfl
   have nT : s.heap.objs.size ≠ H1.objs.size := by rw [hsz]; exact Nat.ne_of_lt (Nat.lt_succ_self _)
   have nD : D ≠ H1.objs.size := by rw [hsz]; exact Nat.ne_of_lt (Nat.lt_succ_of_lt hD)
   refine ⟨fun b hb => by simp at hb; simp [hb], fun i h1 h2 zy1 k => xAA zy1 fun e1 e2 e3 => ⟨k _ (by simp) _ e1, k _ (by simp) _ e2, k _ (by simp) _ e3⟩, fun i s1 Q1 E1 hi zy2 hQ => xAA zy2 fun e1 e2 e3 => ?_, fun s1 Q1 E1 zy3 hQ => xAA zy3 fun e1 e2 e3 => ?_, fun i s1 Q1 E1 zy4 hQ => xAA zy4 fun e1 zw zw => set_self e1 hQ⟩
   · refine xE ((⟨_, List.getElem?_eq_getElem (by rw [hlen]; exact hi)⟩) : ∃ j, ys[i]? = some j) fun j hj => ?_
     have hjl := hlt j (List.mem_of_getElem? hj)
     refine set_item_drawn e1 e3 S rfl e2 (j := j) (by simp [hj, rawInt]) (hx := es[j].1) (x := es[j].2) (by simp [hjl]) fun h' h1 h2 => hQ _ h' s1.toks ?_ ⟨h1, (h2.2 _ nT).trans e2, (h2.2 _ nD).trans e3⟩ fun b ob hb e => h2.extBut b ob (fun z => hb (by simp [z])) e
     simp [hj, hjl]
   · exact set_end_drawn hh e1 e3 S rfl e2 (by simp [hlen]) fun h' he => hQ h' s1.toks fun b ob hb e => he b ob (fun z => hb (by simp [z])) e
 · rename_i hd
   refine wpAny_bind (wpAny_pure (wpAny_bind (wpAny_setEpoch_of hs S.data S.fits ?_)))
   unfold newFields
   refine wpAny_bind (wpAny_newObj_type ?_ (by show (5 : Nat) ≤ sizeLine + 2; decide))
   have hI : (s.heap.push (sitObj (.int ((0 : Nat) : Int) 0) 0 D es.size ep)).get? s.heap.objs.size = some (sitObj (.int ((0 : Nat) : Int) 0) 0 D es.size ep) := Heap.get?_push_size _ rfl
   refine wpAny_pure ⟨_, rfl, "set_iterator", _, ⟨_, hI, rfl⟩, set_order_slot.lookup, ?_⟩
   have fin := fun ord (hp : List.Perm ord es.toList) St hS hW => h s.heap.objs.size _ s.drawn ord hp (fun b ob e => Heap.get?_push_of_some _ e) (Nat.le_refl _) (Heap.lt_size hI) ⟨[s.heap.objs.size, D], St, by simp, fun b hb => by simp only [List.mem_cons, List.not_mem_nil, or_false] at hb; rcases hb with rfl | rfl; exact .inr (Nat.le_refl _); exact .inl rfl, hS, hW⟩
   by_cases hb : w.params.followText "set-order" = true
   · refine fin (pickOrder (w.params.setOrder D ep) es).toList (pickOrder_perm _ _) (fun i h => h.get? s.heap.objs.size = some (sitObj (.int ((0 : Nat) : Int) 0) i D es.size ep) ∧ h.get? D = some o) ⟨hI, Heap.get?_push_of_some _ hs⟩ fun A' hh => ?_
     have hN : ∀ (i : Nat) (s1 : Shared), s1.heap.get? D = some o → ∀ {A : Around} {R : Option (Value × Nat) → Shared → Prop} {E : Value → Shared → Prop}, R (((pickOrder (w.params.setOrder D ep) es)[i]?).map fun e => (e.2, 0)) s1 → wpAny (model prog w) A (setNext D 0 i ep) R E s1 := fun i s1 e3 A R E hR => by
       unfold setNext
       refine wpAny_bind (wpAny_setState_of e3 S.data S.fits (wpAny_bind (byText_wp ?_)))
       rw [if_pos hb, if_neg (by simp)]
       unfold setWalk
       refine wpAny_bind (wpAny_bind (wpAny_setState_of e3 S.data S.fits (wpAny_bind (byText_wp ?_))))
       rw [if_pos hb]
       exact wpAny_bind (wpAny_askSetting (wpAny_pure (wpAny_pure hR)))
     have hl : (pickOrder (w.params.setOrder D ep) es).size = es.size := by
       have := (pickOrder_perm (w.params.setOrder D ep) es).length_eq
       simpa using this
     have nD : D ≠ s.heap.objs.size := Nat.ne_of_lt hD
     refine ⟨fun b hb => by simp at hb; simp [hb], fun i h1 h2 zy5 k => xA zy5 fun e1 e3 => ⟨k _ (by simp) _ e1, k _ (by simp) _ e3⟩, fun i s1 Q1 E1 hi zy6 hQ => xA zy6 fun e1 e3 => ?_, fun s1 Q1 E1 zy7 hQ => xA zy7 fun e1 e3 => ?_, fun i s1 Q1 E1 zy8 hQ => xA zy8 fun e1 zw => set_self e1 hQ⟩
     · have hi' : i < (pickOrder (w.params.setOrder D ep) es).size := by rw [hl]; exact hi
       refine set_item_walk e1 e3 S rfl (nx := 0) (x := ((pickOrder (w.params.setOrder D ep) es)[i]).2) (fun hR => hN i s1 e3 (by simpa [hi'] using hR)) fun h' h1 h2 => hQ _ h' s1.toks ?_ ⟨h1, (h2.2 _ nD).trans e3⟩ fun b ob hb e => h2.extBut b ob (fun z => hb (by simp [z])) e
       simp [hi']
     · exact set_end_walk hh e1 e3 S rfl (fun hR => hN _ s1 e3 (by simpa [hl] using hR)) fun h' he => hQ h' s1.toks fun b ob hb e => he b ob (fun z => hb (by simp [z])) e
   · have hb' : w.params.followText "set-order" = false := by simpa using hb
     have h1 : es.size ≤ 1 := by
       rcases Nat.lt_or_ge 1 es.size with q | q
       · exfalso
         refine hd ?_
         show (!w.params.followText "set-order" && (!t.plain && decide (es.size > 1))) = true
         rw [hb', S.plain (by lia), decide_eq_true q]; rfl
       · exact q
     have hN : ∀ (sl i : Nat) (s1 : Shared), s1.heap.get? D = some o → ∀ {A : Around} {R : Option (Value × Nat) → Shared → Prop} {E : Value → Shared → Prop}, R (match es[SetTable.below t.place sl]?, t.place[SetTable.below t.place sl]? with | some (_, x), some j => some (x, j + 1) | _, _ => none) s1 → wpAny (model prog w) A (setNext D sl i ep) R E s1 := fun sl i s1 e3 A R E hR => by
       unfold setNext
       refine wpAny_bind (wpAny_setState_of e3 S.data S.fits (wpAny_bind (byText_wp ?_)))
       rw [if_neg hb]
       split
       · rename_i hdr
         have hdr' : (!t.plain && decide (es.size > 1)) = true := hdr
         rw [Bool.and_eq_true] at hdr'
         have := of_decide_eq_true hdr'.2
         omega
       · refine wpAny_bind ?_
         show wpAny _ _ (if (!t.led && !es.isEmpty) = true then _ else _) _ _ _
         rw [if_neg (by rw [S.led hb']; simp)]
         exact wpAny_pure (wpAny_pure hR)
     have nD : D ≠ s.heap.objs.size := Nat.ne_of_lt hD
     have hpl : t.place.size = es.size := by
       have := S.fits
       unfold SetTable.fits at this
       simp only [Bool.and_eq_true, beq_iff_eq] at this
       exact this.1
     refine fin es.toList (.refl _) (fun i h => ∃ sl, h.get? s.heap.objs.size = some (sitObj (.int (sl : Nat) 0) i D es.size ep) ∧ h.get? D = some o ∧ SetTable.below t.place sl = i) ⟨0, hI, Heap.get?_push_of_some _ hs, ?_⟩ fun A' hh => ?_
     · rcases Nat.eq_zero_or_pos es.size with q | q
       · have : t.place = #[] := Array.eq_empty_of_size_eq_zero (by rw [hpl, q])
         rw [this]; rfl
       · refine xE ((Array.size_eq_one_iff.mp (by lia)) : ∃ j, t.place = #[j]) fun j hj => ?_
         rw [hj, below1]; simp
     refine ⟨fun b hb => by simp at hb; simp [hb], fun i h1 h2 zy9 k => xEAA zy9 fun sl e1 e3 e4 => ⟨sl, k _ (by simp) _ e1, k _ (by simp) _ e3, e4⟩, fun i s1 Q1 E1 hi zy10 hQ => xEAA zy10 fun sl e1 e3 e4 => ?_, fun s1 Q1 E1 zy11 hQ => xEAA zy11 fun sl e1 e3 e4 => ?_, fun i s1 Q1 E1 zy12 hQ => xEA zy12 fun sl e1 zw => set_self e1 hQ⟩
     · have hi0 : i = 0 := by lia
       subst hi0
       refine xE ((Array.size_eq_one_iff.mp (by lia)) : ∃ j, t.place = #[j]) fun j hj => ?_
       refine set_item_walk e1 e3 S rfl (nx := j + 1) (x := (es[0]'hi).2) (fun hR => hN sl 0 s1 e3 (by rw [e4, hj]; simpa [hi] using hR)) fun h' h1 h2 => hQ _ h' s1.toks ?_ ⟨j + 1, h1, (h2.2 _ nD).trans e3, ?_⟩ fun b ob hb e => h2.extBut b ob (fun z => hb (by simp [z])) e
       · simp [hi]
       · rw [hj, below1]; simp
     · exact set_end_walk hh e1 e3 S rfl (fun hR => hN sl _ s1 e3 (by rw [e4]; simpa using hR)) fun h' he => hQ h' s1.toks fun b ob hb e => he b ob (fun z => hb (by simp [z])) e
end
section
variable {prog : Program} {w : World} {A : Around} {E : Value → Shared → Prop} {s : Shared}
theorem collect_set {D : Addr} {o : Obj} {es : Array (Int × Value)} {ep : Nat} {t : SetTable} {Q : List Value → Shared → Prop} (hh : A.handled = none) (hs : s.heap.get? D = some o) (S : SetIs w o es ep t) (hz : es.size ≤ 4000)
   (h : ∀ vs s', vs.Perm (es.toList.map (·.2)) → Sub s.heap s'.heap → s'.os = s.os → s'.gens = s.gens → Q vs s') : wpAny (model prog w) A (collect (.ref D)) Q E s := by
 have hTy : s.TypeIs (.ref D) "set" := ⟨o, hs, S.ex.1⟩
 have hD : D < s.heap.objs.size := Heap.lt_size hs
 unfold collect
 refine wpAny_bind (wpAny_runValue (codeAny_builtin F.entry_proto_collect ?_))
 rw [Around.under_plainId F.plain_proto_collect _]
 show wpAny _ A.in1 (newList [] >>= fun l => again (.builtin "list.__iadd__" ⟨[l, .ref D], []⟩)) _ _ s
 refine wpAny_bind (wpAny_newObj_type (wpAny_pure ⟨plainId_quiet F.plain_list_iadd _, codeAny_builtin F.entry_list_iadd ?_⟩))
 rw [Around.under_plainId F.plain_list_iadd _]
 show wpAny _ A.in1 (Builtin.List.listExtendWith (.ref s.heap.objs.size) (.ref D) (.ref s.heap.objs.size)) _ _ _
 unfold Builtin.List.listExtendWith
 have hs1 : (s.heap.push { cls := .type "list", data := .seq ([] : List Value).toArray }).get? D = some o := Heap.get?_push_of_some _ hs
 have hT1 : Shared.TypeIs { s with heap := s.heap.push { cls := .type "list", data := .seq ([] : List Value).toArray } } (.ref D) "set" := ⟨o, hs1, S.ex.1⟩
 refine wpAny_bind (wpAny_typeOf (T := "set") hT1 ?_)
 have h1 : Builtin.List.listSameRef (.ref s.heap.objs.size) (.ref D) = false := by simp [Builtin.List.listSameRef, Nat.ne_of_gt hD]
 have h2 : (Value.type "set" == Value.type "list") = false := by decide
 have h3 : (Value.type "set" == Value.type "tuple") = false := by decide
 simp only [h1, h2, h3, Bool.or_false, Bool.false_eq_true, if_false]
 refine wpAny_bind (set_iter_wp hs1 S hz fun I h' d ord hp hk hI hIl zy1 => xEEAAA zy1 fun fp St hIf hfp hSt hW => (wpAny_bind (wpAny_holding ?_)))
 unfold Builtin.List.listLengthHint
 have hs2 : h'.get? D = some o := hk _ _ hs1
 have hT2 : Shared.TypeIs { s with heap := h', drawn := d } (.ref D) "set" := ⟨o, hs2, S.ex.1⟩
 refine wpAny_bind (wpAny_specialOf (T := "set") hT2 F.slot_set_len.lookup ?_)
 wp_delta
 refine wpAny_bind (wpAny_isInstance (T := "set") (b := true) hT2 (by rw [isSubtype_type]; kernel_rfl) ?_)
 show wpAny _ A.in1 (typeOf (Value.ref D) >>= _) _ _ _
 refine wpAny_bind (wpAny_typeOf (T := "set") hT2 (wpAny_pure ?_))
 rw [if_pos (by decide)]
 refine wpAny_bind (wpAny_rule ?_)
 unfold Builtin.List.listTouch
 have hS0 : (s.heap.push { cls := .type "list", data := .seq ([] : List Value).toArray }).get? s.heap.objs.size = some { cls := .type "list", data := .seq ([] : List Value).toArray } := Heap.get?_push_size _ rfl
 have hS1 : h'.get? s.heap.objs.size = some { cls := .type "list", data := .seq ([] : List Value).toArray } := hk _ _ hS0
 have hS2 := Heap.get?_update_self (Obj.mapSeq (·.push Value.none)) hS1 rfl
 refine wpAny_bind (wpAny_bind (listUpdate_at hS1 rfl ?_ (by size_fits) (by show (1 : Nat) ≤ _; decide)))
 have hS3 := Heap.get?_update_self (Obj.mapSeq (·.pop)) hS2 rfl
 refine listUpdate_at hS2 rfl ?_ (by size_fits) (by show (0 : Nat) ≤ _; decide)
 have nf : ∀ b ∈ fp, b ≠ s.heap.objs.size := fun b hb z => by
   rcases hfp b hb with q | q
   · exact Nat.ne_of_lt hD (q.symm.trans z)
   · rw [z] at q
     have e : (s.heap.push { cls := .type "list", data := .seq ([] : List Value).toArray }).objs.size = s.heap.objs.size + 1 := Heap.size_push ..
     have q' : (s.heap.push { cls := .type "list", data := .seq ([] : List Value).toArray }).objs.size ≤ s.heap.objs.size := q
     rw [e] at q'
     exact absurd q' (Nat.not_succ_le_self _)
 have oth : ∀ b, b ≠ s.heap.objs.size → ((h'.update s.heap.objs.size (Obj.mapSeq (·.push Value.none))).update s.heap.objs.size (Obj.mapSeq (·.pop))).get? b = h'.get? b := fun b hb => by
   rw [Heap.get?_update_ne _ _ _ _ hb, Heap.get?_update_ne _ _ _ _ hb]
 have hSt2 := (hW A.in1 hh).frame 0 _ _ hSt fun b hb ob e => (oth b (nf b hb)).trans e
 refine wpAny_pure ⟨plainId_quiet F.plain_extend_loop _, codeAny_extend_loopS (hW A.in1 hh).toS (by rw [sizeLine_val]; lia) _ (fun hm => nf _ hm rfl) _ es.size 0 _ _ _ rfl (Nat.zero_le _) hSt2 hS3 (ItemsOf.nil _) fun s' acc' c' hm hS' hacc => ?_⟩
 show wpAny _ A (load s.heap.objs.size >>= _) _ _ s'
 refine wpAny_bind (wpAny_load hS' ?_)
 refine wpAny_pure (h _ s' ?_ (fun b ob e => hm.heap b ob (fun hb => ?_) ((oth b (Nat.ne_of_lt (Heap.lt_size e))).trans (hk _ _ (Heap.get?_push_of_some _ e)))) hm.os hm.gens)
 · refine xA hacc fun q1 q2 => ?_
   have hlen := hp.length_eq
   have : acc'.toList = ord.map (·.2) := by
     refine List.ext_getElem? fun j => ?_
     rw [Array.getElem?_toList, List.getElem?_map]
     rcases Nat.lt_or_ge j acc'.size with hj | hj
     · have := q2 j acc'[j] (by simp)
       rw [this]; simp
     · rw [Array.getElem?_eq_none hj, List.getElem?_eq_none (by rw [hlen, Array.length_toList, ← q1]; exact hj)]; rfl
   rw [this]
   exact hp.map _
 · simp only [List.mem_cons, List.not_mem_nil, or_false] at hb
   have hlt := Heap.lt_size e
   rcases hb with rfl | rfl
   · exact absurd hlt (Nat.lt_irrefl _)
   · have e1 : (s.heap.push { cls := .type "list", data := .seq ([] : List Value).toArray }).objs.size = s.heap.objs.size + 1 := Heap.size_push ..
     have hI' : (s.heap.push { cls := .type "list", data := .seq ([] : List Value).toArray }).objs.size ≤ b := hI
     rw [e1] at hI'
     exact absurd (Nat.lt_of_lt_of_le hlt (Nat.le_of_succ_le hI')) (Nat.lt_irrefl _)
end
theorem layNew_led (t : SetTable) (es : Array (Int × Value)) (h : Int) (x : Value) : (layNew t es h x).2.1.led = t.led := by
 unfold layNew
 split
 · show (SetTable.orStandIn _ _).led = _
   unfold SetTable.orStandIn
   split <;> rfl
 · rfl
set_option tactic.hygienic true in
theorem relayAll_led (t : SetTable) (es : Array (Int × Value)) (k : Nat) : (relayAll t es k).2.1.led = t.led ∧ (t.plain = false → (relayAll t es k).2.1.plain = false) := by
 unfold relayAll
 split
 · rename_i t' order hq
   have : t'.led = t.led ∧ t'.plain = t.plain := by
     unfold SetTable.relaid SetTable.laid at hq
     simp only [Option.bind_eq_bind, Option.pure_def, Option.bind_eq_some_iff, Option.some.injEq, Prod.mk.injEq] at hq
     refine xEAA hq fun _ _ h1 _ => ?_
     rw [← h1]
     exact ⟨rfl, rfl⟩
   dsimp only
   split
   · exact ⟨this.1, fun h => this.2.trans h⟩
   · exact ⟨rfl, fun _ => rfl⟩
 · exact ⟨rfl, fun _ => rfl⟩
section
variable {prog : Program} {w : World} {A : Around} {E : Value → Shared → Prop} {s : Shared}
theorem SetIs.put {o : Obj} {es es' : Array (Int × Value)} {ep : Nat} {t t' : SetTable} (S : SetIs w o es ep t) (hf : t'.fits es'.size = true) (hl : t'.led = t.led) (hp : t'.plain = false) : SetIs w { o with data := .set es' (ep + 1) t' } es' (ep + 1) t' :=
 ⟨S.ex, rfl, hf, fun q => hl.trans (S.led q), fun _ => hp⟩
theorem setAt_put {h : Heap} {D : Addr} {o : Obj} {es es' : Array (Int × Value)} {ep : Nat} {t t' : SetTable} (ho : h.get? D = some o) (hd : o.data = .set es ep t) : (h.update D (Obj.putSet es' t')).get? D = some { o with data := .set es' (ep + 1) t' } := by
 have := Heap.get?_update_self (Obj.putSet es' t') ho (by rw [putSet_of es' t' hd]; rfl)
 rwa [putSet_of es' t' hd] at this
set_option tactic.hygienic true in
theorem addText_wp {D : Addr} {o : Obj} {es : Array (Int × Value)} {ep : Nat} {t : SetTable} {x : Str} {tk : Tok} {Q : Bool → Shared → Prop} (ho : s.heap.get? D = some o) (S : SetIs w o es ep t) (hel : ElemsOf (PySem.strKind prog w) es.toList) (hz : es.size + 1 < 4000)
   (h : ∀ h' o' es' ep' t' b, h'.get? D = some o' → Heap.SameBut D s.heap h' → SetIs w o' es' ep' t' → ElemsOf (PySem.strKind prog w) es'.toList →
     (es'.toList.Perm es.toList ∧ (∃ e ∈ es.toList, (PySem.strKind prog w).is x e.2 = true) ∨ es'.toList.Perm (es.toList ++ [((PySem.strKind prog w).hash x, .str x tk)]) ∧ ∀ e ∈ es.toList, (PySem.strKind prog w).is x e.2 = false) → Q b { s with heap := h' }) :
   wpAny (model prog w) A (setAddHashed D (.str x tk) ((PySem.strKind prog w).hash x)) Q E s := by
 have hb : es.size < scanBound := by unfold scanBound; lia
 have hz' : ∀ k, k ≤ 4000 → k ≤ sizeLine := fun k hk => by rw [sizeLine_val]; lia
 unfold setAddHashed setAddHashedIn
 refine wpAny_holding (wpAny_bind (wpAny_setState_of ho S.data S.fits ?_))
 dsimp only
 rw [byScan_of rfl hb hel]
 simp only [↓reduceIte]
 unfold setAddByScan
 refine wpAny_bind (wpAny_bind (wpAny_rule (wpAny_bind (wpAny_setScan_of (is_str x tk) ho S.data S.fits hel ?_))))
 cases hr : List.findIdx? (fun e => (PySem.strKind prog w).is x e.2) es.toList with
 | some j =>
   exact xEA (List.findIdx?_eq_some_iff_getElem.mp hr) fun hj hpj _ => (wpAny_pure (wpAny_pure (h s.heap o es ep t false ho (Heap.SameBut.refl D s.heap) S hel (.inl ⟨.refl _, es.toList[j], List.getElem_mem hj, hpj⟩))))
 | none =>
   have hno : ∀ e ∈ es.toList, (PySem.strKind prog w).is x e.2 = false := fun e he => by simpa using List.findIdx?_eq_none_iff.mp hr e he
   have hperm := layNew_perm t es ((PySem.strKind prog w).hash x) (.str x tk)
   have hfits := layNew_fits t es ((PySem.strKind prog w).hash x) (.str x tk)
   have hled := layNew_led t es ((PySem.strKind prog w).hash x) (.str x tk)
   generalize layNew t es ((PySem.strKind prog w).hash x) (.str x tk) = L at hperm hfits hled ⊢
   obtain ⟨es1, t1, wasDummy, gave⟩ := L
   dsimp only at hperm hfits hled ⊢
   rw [Array.toList_push] at hperm
   have hel1 : ElemsOf (PySem.strKind prog w) es1.toList := (hel.push (is_str x tk) rfl).perm hperm
   have hsz : es1.size = es.size + 1 := by rw [← Array.length_toList, hperm.length_eq, List.length_append, Array.length_toList]; rfl
   have hgw : ∀ (b : Bool) {s₁ : Shared} {Q' : Unit → Shared → Prop}, Q' () s₁ → wpAny (model prog w) A (match b with | true => rule "set.scan.the-table-gave-way" | false => pure ()) Q' E s₁ :=
     fun b s₁ Q' hq => by cases b <;> first | exact wpAny_pure hq | exact wpAny_rule hq
   refine wpAny_bind (hgw _ ?_)
   -- the rest, once the table is plain no more
   have fin : ∀ (t2 : SetTable), t2.fits es1.size = true → t2.led = t.led → t2.plain = false → wpAny (model prog w) A (do
         storeSet D es1 t2
         if (!wasDummy && t2.tooFull) = true then do
           (match (relayAll t2 es1 (SetTable.grown es1.size)).2.2 with | true => rule "set.scan.the-table-gave-way" | false => pure ())
           storeSet D (relayAll t2 es1 (SetTable.grown es1.size)).1 (relayAll t2 es1 (SetTable.grown es1.size)).2.1
           pure (some true)
         else pure (some true)) (fun a s' => wpAny (model prog w) A (match a with | some added => pure added | none => setAddHashedIn D (.str x tk) ((PySem.strKind prog w).hash x) 99999) Q E s') E s := fun t2 f2 l2 p2 => by
     refine wpAny_bind (wpAny_storeSet_of ho S.data ?_ (hz' _ (by lia)))
     have ho1 := setAt_put (es' := es1) (t' := t2) ho S.data
     have S1 := S.put (es' := es1) f2 l2 p2
     split
     · have hp := relayAll_perm t2 es1 (SetTable.grown es1.size)
       have hf := relayAll_fits t2 es1 (SetTable.grown es1.size)
       have hl := relayAll_led t2 es1 (SetTable.grown es1.size)
       generalize relayAll t2 es1 (SetTable.grown es1.size) = Rl at hp hf hl ⊢
       obtain ⟨es2, t3, gave2⟩ := Rl
       dsimp only at hp hf hl ⊢
       have hsz2 : es2.size = es1.size := by rw [← Array.length_toList, hp.length_eq, Array.length_toList]
       refine wpAny_bind (hgw _ (wpAny_bind (wpAny_storeSet_of ho1 rfl ?_ (hz' _ (by lia)))))
       refine wpAny_pure (wpAny_pure (h _ _ es2 _ t3 true (setAt_put ho1 rfl) ((Heap.SameBut.update ..).trans (Heap.SameBut.update ..)) (S1.put (es' := es2) hf hl.1 (hl.2 p2)) (hel1.perm hp) (.inr ⟨hp.trans hperm, hno⟩)))
     · exact wpAny_pure (wpAny_pure (h _ _ es1 _ t2 true ho1 (Heap.SameBut.update ..) S1 hel1 (.inr ⟨hperm, hno⟩)))
   split
   · refine wpAny_bind ?_
     rw [hashByValue_scannable 8 rfl]
     exact wpAny_pure (fin { t1 with plain := false } (SetTable.fits_plain_off hfits) hled rfl)
   · rename_i hpl
     exact wpAny_bind (wpAny_pure (fin t1 hfits hled (by simpa using hpl)))
end
noncomputable def SetX (p : PC) (o : Obj) (l : List Str) : Prop := ∃ es ep t, SetIs p.w o es ep t ∧ ElemsOf (PySem.strKind p.prog p.w) es.toList ∧ StrsAre (es.toList.map (·.2)) l ∧ l.Nodup
noncomputable def setO0 (p : PC) : Obj := { cls := .type "set", dict := none, data := .set #[] 0 (.fresh 0 0 (!p.w.params.followText "set-order")) }
theorem setX0 (p : PC) : SetX p (setO0 p) [] := ⟨#[], 0, _, ⟨⟨rfl, rfl, rfl⟩, rfl, rfl, fun h => by show (!_) = true; rw [h]; rfl, fun h => (h rfl).elim⟩, fun e he => (by simp at he), .nil, List.nodup_nil⟩
theorem newA_setX {p : PC} : NewA p (newSet (.type "set")) (.raw (setO0 p)) := fun {_ _ _ _ s _ _ _ _} S h => by
 unfold newSet setsByText
 refine wpAny_bind (wpAny_bind (wpAny_askSetting (wpAny_pure ?_)))
 dsimp only
 simp only [newObj]
 exact wpAny_bind (wpAny_alloc (wpAny_pure (xA (S.pushO (s' := { s with heap := s.heap.push (setO0 p) }) (.raw (setO0 p)) rfl rfl rfl (Heap.get?_push_size _ rfl)) fun f S' => (h _ _ (by rw [Heap.size_push]; exact Nat.lt_succ_self _) f S'))))
section
theorem strs_perm {vs vs' : List Value} {l : List Str} (h : StrsAre vs l) (hp : vs'.Perm vs) : ∃ l', StrsAre vs' l' ∧ l'.Perm l :=
 ⟨vs'.map strOf, strsAre_map vs' fun v hv => h.all v (hp.mem_iff.mp hv), by rw [← h.strs]; exact hp.map _⟩
theorem is_of_str {prog : Program} {w : World} {x y : Str} {t : Tok} : (PySem.strKind prog w).is x (.str y t) = decide (x = y) := by
 by_cases h : x = y
 · subst h; rw [is_str]; simp
 · rw [decide_eq_false h]
   cases q : (PySem.strKind prog w).is x (.str y t) with
   | false => rfl
   | true => exact (h ((PySem.strKind prog w).inj _ _ _ q (is_str y t))).elim
theorem strs_has {prog : Program} {w : World} {x : Str} : ∀ {vs : List Value} {l : List Str}, StrsAre vs l → ((∃ v ∈ vs, (PySem.strKind prog w).is x v = true) ↔ x ∈ l)
 | _, _, .nil => by simp
 | _, _, .cons y t r => by
   have ih := strs_has (prog := prog) (w := w) (x := x) r
   simp only [List.mem_cons, exists_eq_or_imp, ih, is_of_str, decide_eq_true_eq]
theorem emitX_w {elt : Expr} {D : Addr} {Q : St → Prop} (H : EW p n .comp cenv elt (fun a st1 => ∃ x o l, a = .str x ∧ st1.σ D = some (.raw o) ∧ SetX p o l ∧ l.length < 3000 ∧
   ∀ o' l', SetX p o' l' → l'.Perm (if x ∈ l then l else l ++ [x]) → Q (st1.put D (.raw o'))) No st) : BodyW p n cenv (emitS elt (.ref D) cenv) Q st :=
 GW.mk fun A outer h₀ s hid hA S => wpAny_bind (H.use hA S (.refl _) fun v s1 h1 a st1 k1 _ S1 hv zy1 => xEEEAAAA zy1 fun x o l hx e ⟨es, ep, t, SI, hel, hS, hnd⟩ hz q => by
   subst hx
   apply VR.onStr hv; intro tk
   have ho : s1.heap.get? D = some o := (S1.obj _ _ e).1
   have hsz : es.size = l.length := by have := StrsAre.length hS; simpa using this
   refine wpAny_bind (wpAny_standAt (wpAny_bind (wpAny_call_entry F.slot_set_add ⟨o, ho, SI.ex.1⟩ F.entry_set_add ?_ (F.args_set_add_2 _ _))))
   unfold Builtin.«set.add» Builtin.Frozenset.oneOther
   simp only [List.isEmpty_nil, bind_assoc]
   unfold Builtin.Frozenset.addrOf setAdd
   refine wpAny_bind (wpAny_pure (wpAny_bind (wpAny_pure (wpAny_bind (wpAny_holding (wpAny_bind ((PySem.strKind p.prog p.w).pyHash (is_str x tk) (addText_wp (s := { s1 with toks := s1.toks + 1 }) ho SI hel (by lia) fun h' o' es' ep' t' b' ho' hsb SI' hel' hcase => ?_))))))))
   show wpAny _ _ (ret Value.none) _ _ _
   refine wpAny_pure ⟨_, rfl, wpAny_pure ?_⟩
   refine xEA ((by
     have hm := strs_has (prog := p.prog) (w := p.w) (x := x) hS
     rcases hcase with ⟨hp, e1, he1, he2⟩ | ⟨hp, hno⟩
     · rw [if_pos (hm.mp ⟨e1.2, List.mem_map_of_mem he1, he2⟩)]
       exact strs_perm hS (hp.map _)
     · rw [if_neg (fun q => by
         refine xEA (hm.mpr q) fun v hv1 hv2 => ?_
         refine xEA (List.mem_map.mp hv1) fun e1 he1 zz1 => ?_; subst zz1
         rw [hno e1 he1] at hv2; exact xft hv2)]
       refine strs_perm (vs := es.toList.map (·.2) ++ [.str x tk]) ?_ (by simpa using hp.map (·.2))
       have go : ∀ {vs : List Value} {l : List Str}, StrsAre vs l → StrsAre (vs ++ [.str x tk]) (l ++ [x]) := by
         intro vs l h
         induction h with
         | nil => exact .cons _ _ .nil
         | cons y t _ ih => exact .cons _ _ ih
       exact go hS) : ∃ l', StrsAre (es'.toList.map (·.2)) l' ∧ l'.Perm (if x ∈ l then l else l ++ [x])) fun l' hS' hp' => ?_
   have hnd' : l'.Nodup := by
     rw [hp'.nodup_iff]
     split
     · exact hnd
     · rename_i hx
       rw [List.nodup_append]
       exact ⟨hnd, by simp, fun a ha b hb z => by simp at hb; subst hb; subst z; exact hx ha⟩
   exact NP.mk (S1.setO (s' := { s1 with heap := h', toks := s1.toks + 1 }) (ao' := .raw o') e hsb rfl rfl ho') k1 (y := ()) trivial (q o' l' ⟨es', ep', t', SI', hel', hS', hnd'⟩ hp'))
theorem source_set {D : Addr} {o : Obj} {l : List Str} (e : st.σ D = some (.raw o)) (hx : SetX p o l) (hz : l.length ≤ 3000) : ∀ L outer h₀ s hid v, Sat p L outer h₀ s st hid → VR h₀ (.ref D) v → Source p.prog p.w v l s := fun L outer h₀ s hid v S hv A P E hh h => by
 apply VR.onRef hv
 refine xEEEAAA hx fun es ep t SI hel hS hnd => ?_
 have ho : s.heap.get? D = some o := (S.obj _ _ e).1
 have hsz : es.size = l.length := by have := StrsAre.length hS; simpa using this
 exact collect_set hh ho SI (by lia) fun vs s' hp hk hos hg => by
   exact xEA (strs_perm hS hp) fun l' h1 h2 => (h vs l' s' h1 h2 hk hos hg)
end
section
theorem ItE.enumS {elts : List Expr} {x1 : Nat} {tp npos pos : Pos} {e : Expr} {Q : List AV → ((Addr → Option AObj) → Prop) → St → Prop} (hk : nsIn p.K mainGlobals (Str.ofString "enumerate") = some none) (hb : b ≠ .handler)
   (H : EW p n b env e (fun a st1 => ∃ l, a = wA l ∧ Asc l ∧ Q (enumA 0 (l.map cA)) (fun _ => True) st1) X st)
   (hs : backTo pos (starEach [e] env) = [(false, eval e env)] := by rfl)
   (hx : env.kindOf (Str.ofString "enumerate") = some .globalImplicit := by rfl) : ItE p n b env (.Tuple elts x1 tp) (.Call (.Name (Str.ofString "enumerate") npos) [e] [] pos) Q X st := by
 intro A outer h₀ s hid P hA S K
 refine wpAny_Call_Name_kw (builtinName hA S hk boot_enumerate (by decide +kernel) ?_ hx (by decide +kernel))
 rw [hs]
 refine PyProof.Rows.callWith_type rfl (evalArgs_plain (spliced_cons (H.use hA S (.refl _) fun v s1 h1 a st1 k1 _ S1 hv zy1 => xEAA zy1 fun l hl hasc hQ => spliced_nil ?_)))
 subst hl
 apply VR.onStr hv; intro t
 show wpAny _ _ (call (.type "enumerate") [.str (W l) t]) _ _ s1
 refine call_enumerate_str fun h' he hit hsz hk' => ?_
 have hty : strIterType (W l) = "str_ascii_iterator" := by unfold strIterType; rw [W_asc hasc]; rfl
 rw [hty] at hit
 refine wpAny_pyIter_enum he (xEAA hit fun o1 ho1 hc1 hd1 => ?_)
 have S2 : Sat p env.locals outer h1 { s1 with heap := h' } st1 hid := S1.grow hk' rfl S1.gens
 have un1 := unt_ge S1 (Nat.le_refl s1.heap.objs.size)
 have un2 := unt_ge S1 (Nat.le_succ s1.heap.objs.size)
 have n1 := (priv_false.mp un1.2).2.2
 have n2 := (priv_false.mp un2.2).2.2
 have ne : s1.heap.objs.size + 1 ≠ s1.heap.objs.size := Nat.succ_ne_self _
 have S3 := (S2.hide un1 ho1).hide (unt_upd un2 ne) he
 have hsize : (W l).cps.size = l.length := W_len l
 refine K _ h1 (.ref (s1.heap.objs.size + 1)) [s1.heap.objs.size, s1.heap.objs.size + 1] [o1, enumO s1.heap.objs.size 0 .none] (fun rest os => ∃ (i : Nat) (o : Obj) (old : Value), os = [o, enumO s1.heap.objs.size i old] ∧ o.cls = .type "str_ascii_iterator" ∧ o.data = .fields #[.str (W l) t, .int i 0] ∧ i ≤ l.length ∧ enumA i ((l.drop i).map cA) = rest)
   (enumA 0 (l.map cA)) (fun _ => True) st1 k1 ?_ (by simpa using ⟨n1, n2⟩) rfl ⟨0, o1, .none, rfl, hc1, hd1, Nat.zero_le _, rfl⟩ S3 hQ
 clear n1 n2 un1 un2 S3 S2
 refine ⟨by simp, ?_, ?_, ?_⟩
 · intro v' r' os A' L' outer' h₂ s₂ st₂ hid' E' P' zz1 hh hf S4 kk hG K1; refine xEEEAAAA zz1 fun i o old zz2 hc hd' hi hr => ?_; subst zz2
   have n1 := hf _ (.head _)
   have n2 := hf _ (.tail _ (.head _))
   replace S4 : Sat p L' outer' h₂ s₂ st₂ (upd (upd hid' s1.heap.objs.size (.raw o)) (s1.heap.objs.size + 1) (.raw (enumO s1.heap.objs.size i old))) := S4
   cases hdr : l.drop i with
   | nil => rw [hdr] at hr; exact xnc hr
   | cons w tl =>
     rw [hdr, List.map_cons] at hr
     refine xA (List.cons.inj hr) fun hv' hr' => (xA (drop_cons hdr) fun hx ht => ?_)
     have hil : i < l.length := (List.getElem?_eq_some_iff.mp hx).1
     have hoI := (S4.hidd s1.heap.objs.size _ (by rw [upd_ne _ _ (Ne.symm ne)]; exact upd_same ..)).1
     have hoE := (S4.hidd (s1.heap.objs.size + 1) _ (upd_same ..)).1
     refine wpAny_pyNext_enum_itemD (Draws.strAscii (A := A'.in1) hh s1.heap.objs.size (W l) t) hoE ⟨o, hoI, hc, hd'⟩ (by rw [hsize]; exact hil) ne (by simp) fun u h3 tk hPu hout hit' htup hsz3 hk3 => ⟨_, rfl, (xEEA hPu fun c tc hc1' hu => ?_)⟩
     have hcw : c = w := by
       have : (W l).cps[i]? = some w := by simpa [W] using hx
       rw [hc1'] at this; exact Option.some.inj this
     subst hcw
     refine wpAny_letOwnedTupleGo_enum hout fun h4 he4 hs4 => (xEAA hit' fun o' ho' hc' hd'' => ?_)
     have hlt : s1.heap.objs.size + 1 < s₂.heap.objs.size := Heap.lt_size hoE
     have S5 : Sat p L' outer' h₂ { s₂ with heap := h4, toks := tk + 1 } st₂ (upd (upd hid' s1.heap.objs.size (.raw o')) (s1.heap.objs.size + 1) (.raw (enumO s1.heap.objs.size ((i : Int) + 1) u))) :=
       S4.two (s' := { s₂ with heap := h4, toks := tk + 1 }) n1 n2 ne (fun a ob q1 q2 q3 => hs4.extBut a ob q1 (hk3 a ob q1 q2 q3)) ((hs4.2 _ (Ne.symm ne)).trans ho') he4 rfl rfl
     refine xA S5.refreeze fun k6 S6 => ?_
     refine K1 _ _ [o', enumO s1.heap.objs.size ((i : Int) + 1) u] _ k6 ⟨i + 1, o', u, rfl, hc', hd'', hil, ?_⟩ S6 ?_
     · rw [ht]; exact hr'
     · rw [← hv']
       refine .tup (vs := [.int i tk, u]) (n := 0) ?_ (.cons (.int ..) (.cons (by rw [hu]; exact .str ..) .nil))
       rw [mask_get]
       have np : priv L' st₂ (upd (upd hid' s1.heap.objs.size (.raw o')) (s1.heap.objs.size + 1) (.raw (enumO s1.heap.objs.size ((i : Int) + 1) u))) s₂.heap.objs.size = false := by
         have un := unt_ge S4 (Nat.le_refl s₂.heap.objs.size)
         refine xAA (priv_false.mp un.2) fun q1 q2 q3 => (priv_false.mpr ⟨q1, q2, ?_⟩)
         rw [upd_ne _ _ (Nat.ne_of_gt hlt), upd_ne _ _ (Nat.ne_of_gt (Nat.lt_of_succ_lt hlt))] at q3 ⊢
         exact q3
       rw [np]
       exact (hs4.2 _ (Nat.ne_of_gt hlt)).trans htup
 · intro l' os A' L' outer' h₂ s₂ st₂ hid' E' P' zz3 hf S4 hP; refine xEEEAAAA zz3 fun i o old zz4 hc hd' hi hr => ?_; subst zz4
   exact wpAny_pyIter_enum (S4.hidd (s1.heap.objs.size + 1) _ (upd_same (upd hid' s1.heap.objs.size (.raw o)) (s1.heap.objs.size + 1) _)).1 hP
 · intro os A' L' outer' h₂ s₂ st₂ hid' E' P' zz5 hh hf S4 kk hG K1; refine xEEEAAAA zz5 fun i o old zz6 hc hd' hi hr => ?_; subst zz6
   have n1 := hf _ (.head _)
   have n2 := hf _ (.tail _ (.head _))
   replace S4 : Sat p L' outer' h₂ s₂ st₂ (upd (upd hid' s1.heap.objs.size (.raw o)) (s1.heap.objs.size + 1) (.raw (enumO s1.heap.objs.size i old))) := S4
   have hnil : l.drop i = [] := by
     cases hdr : l.drop i with
     | nil => rfl
     | cons w t => rw [hdr] at hr; exact xcn hr
   have hil : i = l.length := Nat.le_antisymm hi (List.drop_eq_nil_iff.mp hnil)
   have hoI := (S4.hidd s1.heap.objs.size _ (by rw [upd_ne _ _ (Ne.symm ne)]; exact upd_same ..)).1
   have hoE := (S4.hidd (s1.heap.objs.size + 1) _ (upd_same ..)).1
   refine wpAny_pyNext_enum_endD (Draws.strAscii (A := A'.in1) hh s1.heap.objs.size (W l) t) hoE ⟨o, hoI, hc, by rw [hsize, ← hil]; exact hd'⟩ fun h' hs => ⟨rfl, ?_⟩
   exact xAA (S4.drop2 n1 n2 ne) fun S5 u1 _ => (K1 _ _ (.refl _) (S5.extB (s' := { s₂ with heap := h' }) u1 hs rfl rfl))
theorem evalArgs_star {M : Model} {A : Around} {E : Value → Shared → Prop} {s : Shared} {f : Value} {x : Sem Value} {Q : Args → Shared → Prop}
   (h : wpAny M A x (fun v s₁ => wpAny M A (notIterableAtAll v) (fun c s₂ => c = false ∧ wpAny M A (collect v) (fun vs s₃ => Q ⟨vs, []⟩ s₃) E s₂) E s₁) E s) : wpAny M A (evalArgs f true [(true, x)] []) Q E s := by
 unfold evalArgs
 show wpAny M A (x >>= _) Q E s
 refine wpAny_bind (wpAny_mono h (fun v s₁ h₁ => wpAny_bind (wpAny_pure (wpAny_holding (wpAny_bind (wpAny_pure (wpAny_bind (wpAny_bind (wpAny_mono h₁ (fun c s₂ zy2 => xA zy2 fun hc h₂ => ?_) fun _ _ e => e)))))))) fun _ _ e => e)
 subst hc
 simp only [Bool.false_eq_true, if_false]
 exact wpAny_holding (wpAny_mono h₂ (fun vs s₃ h₃ => wpAny_pure h₃) fun _ _ e => e)
theorem iterable_tup {M : Model} {A : Around} {E : Value → Shared → Prop} {s : Shared} {l : Addr} {vs : List Value} {k : Nat} {Q : Bool → Shared → Prop} (hl : s.heap.get? l = some (tupObj vs k)) (h : Q false s) : wpAny M A (notIterableAtAll (.ref l)) Q E s := by
 unfold notIterableAtAll
 exact wpAny_bind (wpAny_specialOf (T := "tuple") ⟨_, hl, rfl⟩ F.slot_tuple_iter.lookup (wpAny_pure h))
set_option tactic.hygienic true in
theorem EW.callStarT {o e₂ : Expr} {name : Str} {apos spos pos : Pos} {x C dx f : Addr} (hC : KCls p C) (hm : KMeth p C name f)
   (H : EW p n b env o (fun a st1 => a = .ref x ∧ (∃ es ep, st1.σ x = some (.inst C dx) ∧ st1.σ dx = some (.dict es ep) ∧ aget es name = none) ∧
     EW p n b env e₂ (fun d st3 => ∃ l, d = .tup l ∧ l.length ≤ 1000 ∧ CC p n b env (.ref f) (.ref x :: l) Q X st3) X st1) X st)
   (he : eval (.Call (.Attribute o name apos) [.Starred e₂ spos] [] pos) env = (do
     let ov ← eval o env
     standAt apos.atName
     let (f, first) ← holding [ov] (do pure (← getAttr ov name true, []))
     callWith pos f first [(true, do let v ← eval e₂ env; standAt pos; pure v)] []) := by rfl) : EW p n b env (.Call (.Attribute o name apos) [.Starred e₂ spos] [] pos) Q X st :=
 GW.mk fun A outer h₀ s hid hA S => by
   rw [he]
   refine wpAny_bind (H.use hA S (.refl _) fun v s1 h1 a st1 k1 _ S1 hv hq => wpAny_bind (wpAny_standAt (wpAny_bind (wpAny_holding (wpAny_bind ?_)))))
   refine xAA hq fun zz7 zz8 H1 => ?_; subst zz7; obtain ⟨es, ep, q1, q2, q3⟩ := zz8
   apply VR.onRef hv
   refine xEEAAAA (inst_at S1 q1 q2) fun od ds I ho D r hl => ?_
   have hfo := hm.bind od (fun nm => ⟨_, hl nm⟩) ((hl name).trans (by rw [(r.get name).2 q3]))
   refine get_bind S1.inK I hC.ga hfo hC.gm (wpAny_call (fn_get (s := { s1 with toks := s1.toks + 1 }) S1.inK hm.type (handed_on rfl (xEAA (S1.pushF (s' := { s1 with heap := s1.heap.push (methodObj (.ref f) (.ref x)), toks := s1.toks + 1 }) (methodObj (.ref f) (.ref x)) rfl rfl rfl rfl) fun h2 k12 S2 e2 => (wpAny_pure ?_)))))
   dsimp only
   unfold callWith
   refine wpAny_bind (wpAny_holding (evalArgs_star (wpAny_bind (H1.use hA S2 (k1.trans k12) fun w s4 h4 d st4 k4 k34 S4 hw zy3 => xEAA zy3 fun l hl4 hz H4 => wpAny_bind (wpAny_standAt (wpAny_pure ?_))))))
   subst hl4
   apply VR.onTup hw; intro y vs k e4 r4
   have e4 := S4.sub _ _ e4
   refine iterable_tup e4 ⟨rfl, wpAny_collect_seq y (.inr rfl) e4 rfl rfl (fun h5 hk5 => ?_) (by rw [List.size_toArray, r4.length, sizeLine_val]; lia)⟩
   have S5 := S4.grow (s' := { s4 with heap := h5 }) hk5 rfl S4.gens
   refine wpAny_bind (wpAny_standAt ?_)
   have hq := k34 _ _ e2
   have hq5 : h5.get? s1.heap.objs.size = some (methodObj (.ref f) (.ref x)) := S5.sub _ _ hq
   have hfn := hm.fn
   unfold fnIn at hfn
   split at hfn
   · rename_i oc od' fd sl ef
     have hf5 := S5.inK _ _ ef
     have L : Looks (model p.prog p.w) h5 (keeperOf (.ref s1.heap.objs.size)) .boundFrame := (Looks.ld (part := none) hq5).andThen ((Looks.ld (part := none) hf5).andThen .now)
     refine wpAny_bind (L _ _ _ _ (fun _ _ z => z) ?_)
     simp only [List.any_cons, Bool.true_or]
     refine wpAny_bind (wpAny_operateT (wpAny_call (method_call (s := { s4 with heap := h5 }) hq5 ?_)))
     have := H4 A outer h4 { s4 with heap := h5 } hid (.ref x :: vs) hA S5 (.cons (.ref _) r4)
     refine codeAny_mono this fun res s6 z => ?_
     cases res with
     | error ex => exact EP.mono k4 (fun _ _ z => z) z
     | ok fl =>
       cases fl with
       | ret v =>
         exact xEEEAAA z fun h6 y6 st6 k6 S6 r6 q6 => (wpAny_bind (wpAny_holding (wpAny_point (wpAny_pure ⟨h6, y6, st6, k4.trans k6, S6, r6, q6⟩))))
       | _ => exact z.elim
   · exact xft hfn
end
section
noncomputable def StepOK (D : Addr) (N : Nat) (P : AV → Prop) (Acc : List AV → AObj → Prop) (Step : AV → (St → Prop) → St → Prop) : Prop :=
 ∀ done a st Q ao, P a → st.σ D = some ao → Acc done ao → done.length < N → (∀ ao', Acc (done ++ [a]) ao' → Q (st.put D ao')) → Step a Q st
noncomputable abbrev elIn (p : PC) (n : Nat) (cenv : Env) (elt : Expr) (Step : AV → (St → Prop) → St → Prop) (Q : St → Prop) (st : St) : Prop := EW p n .comp cenv elt (fun a st1 => Step a Q st1) No st
noncomputable def ItemP (P : (String → Option AV) → Prop) (p : PC) (n : Nat) (cenv : Env) (target : Expr) (ifs : List Expr) (elt : Expr) (σ : Addr → Option AObj) (v : AV) (r : Option AV) : Prop := ∀ st, P st.ρ → (∀ a o, σ a = some o → st.σ a = some o) →
 AsW p n .comp cenv target v (fun _ st1 => TestsW p n cenv ifs (fun c st2 => if c then EW p n .comp cenv elt (fun a st3 => r = some a ∧ st3.σ = st.σ ∧ P st3.ρ) No st2 else r = none ∧ st2.σ = st.σ ∧ P st2.ρ) st1) No st
theorem ElemsW.toP {target : Expr} {ifs : List Expr} {elt : Expr} {σ : Addr → Option AObj} {items : List AV} {rs : List (Option AV)} (h : ElemsW (ItemW p n cenv target ifs elt σ) items rs) : ElemsW (ItemP (fun _ => True) p n cenv target ifs elt σ) items rs := by
 induction h with
 | nil => exact .nil
 | cons he _ ih =>
   refine .cons (fun st _ hs => (he st hs).mono fun st1 q => TestsW.mono (fun c st2 q2 => ?_) ifs q) ih
   cases c with
   | false => exact ⟨q2.1, q2.2, trivial⟩
   | true => exact GW.mono q2 (fun a st3 q3 => ⟨q3.1, q3.2, trivial⟩) fun _ _ z => z
set_option tactic.hygienic true in
theorem CompW.acc {R : (String → Option AV) → Prop} {target : Expr} {ifs : List Expr} {elt : Expr} {G : (Addr → Option AObj) → Prop} {σ : Addr → Option AObj} {D : Addr} {N : Nat} {P : AV → Prop} {Acc : List AV → AObj → Prop} {Step : AV → (St → Prop) → St → Prop} (hst : StepOK D N P Acc Step) (hD : σ D = none) (hG : ∀ σ', (∀ a o, σ a = some o → σ' a = some o) → G σ') :
   ∀ (items : List AV) (rs : List (Option AV)), ElemsW (ItemP R p n cenv target ifs elt σ) items rs → (∀ a ∈ rs.filterMap id, P a) →
   ∀ (done : List AV) (ao : AObj) (st : St) (Q : St → Prop), R st.ρ → done.length + items.length ≤ N → (∀ a, a ≠ D → st.σ a = σ a) → st.σ D = some ao → Acc done ao → (∀ st' ao', (∀ a, a ≠ D → st'.σ a = σ a) → st'.σ D = some ao' → Acc (done ++ rs.filterMap id) ao' → Q st') →
   CompW p n cenv target ifs (elIn p n cenv elt Step) G items Q st
 | [], _, hE, hP, done, ao, st, Q, hr0, hz, hk, hd, ha, hQ => by
   cases hE
   exact ⟨hG _ fun a o e => by rw [hk a fun z => by rw [z, hD] at e; exact xns e]; exact e, hQ st ao hk hd (by simpa using ha)⟩
 | v :: r, _, hE, hP, done, ao, st, Q, hr0, hz, hk, hd, ha, hQ => by
   cases hE with | cons he hr =>
   rename_i ro rs
   have hle : ∀ a o, σ a = some o → st.σ a = some o := fun a o e => by rw [hk a fun z => by rw [z, hD] at e; exact xns e]; exact e
   refine ⟨hG _ hle, (he st hr0 hle).mono fun st1 q1 => TestsW.mono (fun c st2 q2 => ?_) ifs q1⟩
   cases c with
   | false =>
     simp only [Bool.false_eq_true, if_false] at q2 ⊢
     refine xAA q2 fun zz1 e2 e0 => ?_; subst zz1
     exact CompW.acc hst hD hG r rs hr (fun a ha => hP a (by simpa using ha)) done ao st2 Q e0 (by simp at hz; lia) (fun a ha => by rw [e2]; exact hk a ha) (by rw [e2]; exact hd) ha (by simpa using hQ)
   | true =>
     simp only [if_true] at q2 ⊢
     refine GW.mono q2 (fun a st3 zy1 => xAA zy1 fun e3 e4 e0 => ?_) fun _ _ z => z
     subst e3
     refine hst done a st3 _ ao (hP a (by simp)) (by rw [e4]; exact hd) ha (by simp at hz; lia) fun ao' ha' => CompW.acc hst hD hG r rs hr (fun a ha => hP a (by simp at ha ⊢; exact .inr ha)) (done ++ [a]) ao' _ Q e0 (by simp at hz ⊢; lia) (fun x hx => ?_) (upd_same ..) ha' (by simpa using hQ)
     show upd st3.σ D _ x = _
     rw [upd_ne _ _ hx, e4]; exact hk x hx
noncomputable def Item2W (p : PC) (n : Nat) (cenv : Env) (target : Expr) (t' i' : Expr) (ifs' : List Expr) (elt : Expr) (σ : Addr → Option AObj) (v : AV) (r : List AV) : Prop := ∀ st, (∀ a o, σ a = some o → st.σ a = some o) →
 AsW p n .comp cenv target v (fun _ st1 => ItE p n .comp cenv t' i' (fun items G st2 => st2.σ = st.σ ∧ (∀ σ', (∀ a o, σ a = some o → σ' a = some o) → G σ') ∧ ∃ R rs, R st2.ρ ∧ ElemsW (ItemP R p n cenv t' ifs' elt σ) items rs ∧ r = rs.filterMap id ∧ items.length = r.length) No st1) No st
inductive Elems2 (E : AV → List AV → Prop) : List AV → List (List AV) → Prop
 | nil : Elems2 E [] []
 | cons {v : AV} {l : List AV} {r : List AV} {rs : List (List AV)} : E v r → Elems2 E l rs → Elems2 E (v :: l) (r :: rs)
theorem ItE.mono {target iter : Expr} {Q Q' : List AV → ((Addr → Option AObj) → Prop) → St → Prop} (H : ItE p n b env target iter Q X st) (h : ∀ items G st1, Q items G st1 → Q' items G st1) : ItE p n b env target iter Q' X st :=
 fun A outer h₀ s hid P hA S K => H A outer h₀ s hid P hA S fun s' h₁ it as os J items G st1 k I hf hl hJ S1 q => K s' h₁ it as os J items G st1 k I hf hl hJ S1 (h items G st1 q)
set_option tactic.hygienic true in
theorem CompW.acc2 {target t' i' : Expr} {ifs' : List Expr} {elt : Expr} {G : (Addr → Option AObj) → Prop} {σ : Addr → Option AObj} {D : Addr} {N : Nat} {P : AV → Prop} {Acc : List AV → AObj → Prop} {Step : AV → (St → Prop) → St → Prop} (hst : StepOK D N P Acc Step) (hD : σ D = none) (hG : ∀ σ', (∀ a o, σ a = some o → σ' a = some o) → G σ') :
   ∀ (items : List AV) (rs : List (List AV)), Elems2 (Item2W p n cenv target t' i' ifs' elt σ) items rs → (∀ a ∈ rs.flatten, P a) →
   ∀ (done : List AV) (ao : AObj) (st : St) (Q : St → Prop), done.length + rs.flatten.length ≤ N → (∀ a, a ≠ D → st.σ a = σ a) → st.σ D = some ao → Acc done ao → (∀ st' ao', (∀ a, a ≠ D → st'.σ a = σ a) → st'.σ D = some ao' → Acc (done ++ rs.flatten) ao' → Q st') →
   CompW p n cenv target [] (fun Q st => ItE p n .comp cenv t' i' (fun items G st1 => CompW p n cenv t' ifs' (elIn p n cenv elt Step) G items Q st1) No st) G items Q st
 | [], _, hE, hP, done, ao, st, Q, hz, hk, hd, ha, hQ => by
   cases hE
   exact ⟨hG _ fun a o e => by rw [hk a fun z => by rw [z, hD] at e; exact xns e]; exact e, hQ st ao hk hd (by simpa using ha)⟩
 | v :: r, _, hE, hP, done, ao, st, Q, hz, hk, hd, ha, hQ => by
   cases hE with | cons he hr =>
   rename_i ro rs
   have hle : ∀ a o, σ a = some o → st.σ a = some o := fun a o e => by rw [hk a fun z => by rw [z, hD] at e; exact xns e]; exact e
   refine ⟨hG _ hle, (he st hle).mono fun st1 q1 => ?_⟩
   show ItE _ _ _ _ _ _ _ _ _
   refine q1.mono fun items' G' st2 zy2 => xAAEEAAA zy2 fun e2 hG' R' rs' hR' hE' e3 hl => ?_
   subst e3
   exact CompW.acc hst hD hG' items' rs' hE' (fun a ha => hP a (by simp only [List.flatten_cons, List.mem_append]; exact .inl ha)) done ao st2 _ hR' (by rw [hl]; simp at hz ⊢; lia) (fun a ha => by rw [e2]; exact hk a ha) (by rw [e2]; exact hd) ha fun st' ao' hk' hd' ha' => (CompW.acc2 hst hD hG r rs hr (fun a ha => hP a (by simp only [List.flatten_cons, List.mem_append]; exact .inr ha)) (done ++ rs'.filterMap id) ao' st' Q (by simp at hz ⊢; lia) hk' hd' ha' (by simpa using hQ))
theorem stepL {D : Addr} : StepOK D 16777216 (fun _ => True) (fun done ao => ao = .list done) (fun a Q st1 => ∃ l, st1.σ D = some (.list l) ∧ l.length ≤ 16777216 ∧ Q (st1.put D (.list (l ++ [a])))) :=
 fun done a st Q ao _ e ha hz h => ⟨done, by rw [e, ha], by lia, h _ rfl⟩
noncomputable def AccX (p : PC) (done : List AV) (ao : AObj) : Prop := ∃ o l, ao = .raw o ∧ SetX p o l ∧ l.length ≤ done.length ∧ ∀ x, x ∈ l ↔ AV.str x ∈ done
noncomputable abbrev StepX (p : PC) (D : Addr) (a : AV) (Q : St → Prop) (st1 : St) : Prop := ∃ x o l, a = .str x ∧ st1.σ D = some (.raw o) ∧ SetX p o l ∧ l.length < 3000 ∧ ∀ o' l', SetX p o' l' → l'.Perm (if x ∈ l then l else l ++ [x]) → Q (st1.put D (.raw o'))
set_option tactic.hygienic true in
theorem stepX {D : Addr} : StepOK D 3000 (fun a => ∃ x, a = .str x) (AccX p) (StepX p D) := by
 intro done a st Q ao zz2 e ha hz h; refine xE zz2 fun x hx => ?_
 refine xEEAAA ha fun o l zz3 hX hl hm => ?_; subst zz3
 refine ⟨x, o, l, hx, e, hX, by lia, fun o' l' hX' hp => h _ ⟨o', l', rfl, hX', ?_, fun y => ?_⟩⟩
 · rw [hp.length_eq]; split <;> simp <;> lia
 · rw [hp.mem_iff, hx]
   simp only [List.mem_append, List.mem_singleton, AV.str.injEq]
   split
   · rename_i hxl
     rw [hm y]
     constructor
     · exact .inl
     · rintro (q | rfl)
       · exact q
       · exact (hm _).mp hxl
   · rw [List.mem_append, hm y, List.mem_singleton]
end
section
theorem envX_plain {scope : Scope} {cl : List (Str × Addr)} {C : Addr} (hcell : ∀ x ∈ scope.names, x.2 ≠ .cell) : compEnvX scope cl C env = compEnvC scope cl C env := by
 show compEnvC scope (PySem.cellsFrom (C + 1) scope.names cl) C env = _
 rw [show PySem.cellsFrom (C + 1) scope.names cl = cl from by have := cells_app scope.names (C + 1) [] cl; rw [cells0 hcell] at this; exact this]
theorem EW.lcomp2 {elt t i t' i' : Expr} {ifs' : List Expr} {scope : Scope} {pos : Pos} {cl : List (Str × Addr)} (hclos : closureFor scope env = pure cl)
   (H : ItE p n b env t i (fun items G st1 => (∀ σ', (∀ a o, st1.σ a = some o → σ' a = some o) → G σ') ∧ ∃ rs, rs.flatten.length ≤ 16777216 ∧ (∀ C, Elems2 (Item2W p n (compEnvC scope cl C env) t t' i' ifs' elt st1.σ) items rs) ∧ Q (.lst rs.flatten) st1) X st)
   (hs' : ∀ C x, foldedSetIterable i' (compEnvC scope cl C env) x = pure x := by intro _ _; rfl)
   (hb : b ≠ .handler := by decide) (hcell : ∀ x ∈ scope.names, x.2 ≠ .cell := by decide +kernel) (hnames : ∀ x ∈ scope.names, x.2 = .local → scope.names.lookup x.1 = some .local := by decide +kernel) (hkind : scope.kind = .function := by rfl)
   (hs : ∀ x, foldedSetIterable i env x = pure x := by intro _; rfl) : EW p n b env (.ListComp elt [⟨t, i, [], 0⟩, ⟨t', i', ifs', 0⟩] scope pos) Q X st := by
 refine GW.frz (EW.compG (g := ⟨t, i, [], 0⟩) (gs := [⟨t', i', ifs', 0⟩]) (cl := cl) (body := fun D cenv => nestB (.ListComp elt [⟨t, i, [], 0⟩, ⟨t', i', ifs', 0⟩] scope pos) 1 (.ref D) cenv ⟨t', i', ifs', 0⟩)
   (inner := fun C D Q st => ItE p n .comp (compEnvX scope cl C env) t' i' (fun items G st1 => CompW p n (compEnvX scope cl C env) t' ifs' (elIn p n (compEnvX scope cl C env) elt fun a Q st1 => ∃ l, st1.σ D = some (.list l) ∧ l.length ≤ 16777216 ∧ Q (st1.put D (.list (l ++ [a])))) G items Q st1) No st)
   rfl rfl hclos hnames newA_list (fun _ _ => compAt_L1) hb (fun C D Q st h => nestW (g := ⟨t', i', ifs', 0⟩) compAt_L2 (fun Q st h => emitL_w h) h (by rw [envX_plain hcell]; exact hs' C)) ?_ hkind hs)
 refine fun A outer h₀ s hid P hA S K => H A outer h₀ s hid P hA S fun s' h₁ it as os J items G st1 k I hf hl hJ S1 zy1 => xAEAA zy1 fun hG rs hz hE hq => K s' h₁ it as os J items G st1 k I hf hl hJ S1 fun C D hD hDC hC => ?_
 rw [envX_plain hcell, cells0 hcell]
 refine CompW.acc2 stepL hD hG items rs (hE C) (fun _ _ => trivial) [] _ _ _ (by simpa using hz) (fun a ha => upd_ne _ _ ha) (upd_same ..) rfl fun st' ao h1 h2 h3 => ⟨fun a o e => by rw [h1 a fun z => by rw [z, hD] at e; exact xns e]; exact e, ao, h2, D, rs.flatten, rfl, ?_, ?_⟩
 · rw [h3, List.nil_append]; exact upd_same ..
 · rw [put_del _ hD]; exact hq
theorem EW.scomp2 {elt t i t' i' : Expr} {ifs' : List Expr} {scope : Scope} {pos : Pos} {cl : List (Str × Addr)} (hclos : closureFor scope env = pure cl)
   (H : ItE p n b env t i (fun items G st1 => (∀ σ', (∀ a o, st1.σ a = some o → σ' a = some o) → G σ') ∧ ∃ rs, rs.flatten.length ≤ 3000 ∧ (∀ a ∈ rs.flatten, ∃ x, a = .str x) ∧ (∀ C, Elems2 (Item2W p n (compEnvC scope cl C env) t t' i' ifs' elt st1.σ) items rs) ∧
     ∀ D o, st1.σ D = none → AccX p rs.flatten o → Q (.ref D) (st1.put D o)) X st)
   (hs' : ∀ C x, foldedSetIterable i' (compEnvC scope cl C env) x = pure x := by intro _ _; rfl)
   (hb : b ≠ .handler := by decide) (hcell : ∀ x ∈ scope.names, x.2 ≠ .cell := by decide +kernel) (hnames : ∀ x ∈ scope.names, x.2 = .local → scope.names.lookup x.1 = some .local := by decide +kernel) (hkind : scope.kind = .function := by rfl)
   (hs : ∀ x, foldedSetIterable i env x = pure x := by intro _; rfl) : EW p n b env (.SetComp elt [⟨t, i, [], 0⟩, ⟨t', i', ifs', 0⟩] scope pos) Q X st := by
 refine EW.compG (g := ⟨t, i, [], 0⟩) (gs := [⟨t', i', ifs', 0⟩]) (cl := cl) (body := fun D cenv => nestB (.SetComp elt [⟨t, i, [], 0⟩, ⟨t', i', ifs', 0⟩] scope pos) 1 (.ref D) cenv ⟨t', i', ifs', 0⟩)
   (inner := fun C D Q st => ItE p n .comp (compEnvX scope cl C env) t' i' (fun items G st1 => CompW p n (compEnvX scope cl C env) t' ifs' (elIn p n (compEnvX scope cl C env) elt (StepX p D)) G items Q st1) No st)
   rfl rfl hclos hnames newA_setX (fun _ _ => compAt_S1) hb (fun C D Q st h => nestW (g := ⟨t', i', ifs', 0⟩) compAt_S2 (fun Q st h => emitX_w h) h (by rw [envX_plain hcell]; exact hs' C)) ?_ hkind hs
 refine fun A outer h₀ s hid P hA S K => H A outer h₀ s hid P hA S fun s' h₁ it as os J items G st1 k I hf hl hJ S1 zy2 => xAEAAA zy2 fun hG rs hz hP hE hq => K s' h₁ it as os J items G st1 k I hf hl hJ S1 fun C D hD hDC hC => ?_
 rw [envX_plain hcell, cells0 hcell]
 refine CompW.acc2 stepX hD hG items rs (hE C) hP [] _ _ _ (by simpa using hz) (fun a ha => upd_ne _ _ ha) (upd_same ..) ⟨_, [], rfl, setX0 p, Nat.le_refl _, fun x => by simp⟩ fun st' ao h1 h2 h3 => ⟨fun a o e => by rw [h1 a fun z => by rw [z, hD] at e; exact xns e]; exact e, ao, h2, hq D ao hD (by simpa using h3)⟩
noncomputable def ItemD (p : PC) (n : Nat) (cenv : Env) (target : Expr) (kx vx : Expr) (σ : Addr → Option AObj) (v : AV) (r : Str × AV) : Prop := ∀ st, (∀ a o, σ a = some o → st.σ a = some o) →
 AsW p n .comp cenv target v (fun _ st1 => EW p n .comp cenv kx (fun kv st2 => EW p n .comp cenv vx (fun vv st3 => kv = .str r.1 ∧ vv = r.2 ∧ st3.σ = st.σ) No st2) No st1) No st
inductive ElemsD (E : AV → Str × AV → Prop) : List AV → List (Str × AV) → Prop
 | nil : ElemsD E [] []
 | cons {v : AV} {l : List AV} {r : Str × AV} {rs : List (Str × AV)} : E v r → ElemsD E l rs → ElemsD E (v :: l) (r :: rs)
noncomputable def asetAll (es rs : List (Str × AV)) : List (Str × AV) := rs.foldl (fun es x => aset es x.1 x.2) es
theorem aset_len1 (es : List (Str × AV)) (k : Str) (v : AV) : (aset es k v).length ≤ es.length + 1 := aset_le (Nat.le_refl _)
set_option tactic.hygienic true in
theorem CompW.dict {target kx vx : Expr} {G : (Addr → Option AObj) → Prop} {σ : Addr → Option AObj} {D : Addr} (hD : σ D = none) (hG : ∀ σ', (∀ a o, σ a = some o → σ' a = some o) → G σ') :
   ∀ (items : List AV) (rs : List (Str × AV)), ElemsD (ItemD p n cenv target kx vx σ) items rs →
   ∀ (es : List (Str × AV)) (ep : Nat) (st : St) (Q : St → Prop), es.length + items.length ≤ 16777216 → (∀ a, a ≠ D → st.σ a = σ a) → st.σ D = some (.dict es ep) → (∀ st' ep', (∀ a, a ≠ D → st'.σ a = σ a) → st'.σ D = some (.dict (asetAll es rs) ep') → Q st') →
   CompW p n cenv target [] (fun Q st => EW p n .comp cenv kx (fun kv st1 => EW p n .comp cenv vx (fun vv st2 => ∃ x es ep, kv = .str x ∧ st2.σ D = some (.dict es ep) ∧ es.length ≤ 16777216 ∧ ∀ ep', Q (st2.put D (.dict (aset es x vv) ep'))) No st1) No st) G items Q st
 | [], _, hE, es, ep, st, Q, hz, hk, hd, hQ => by
   cases hE
   exact ⟨hG _ fun a o e => by rw [hk a fun z => by rw [z, hD] at e; exact xns e]; exact e, hQ st ep hk hd⟩
 | v :: r, _, hE, es, ep, st, Q, hz, hk, hd, hQ => by
   cases hE with | cons he hr =>
   rename_i ro rs
   have hle : ∀ a o, σ a = some o → st.σ a = some o := fun a o e => by rw [hk a fun z => by rw [z, hD] at e; exact xns e]; exact e
   refine ⟨hG _ hle, (he st hle).mono fun st1 q1 => ?_⟩
   show GW _ _ _ _ _ _ _ _ _
   refine GW.mono q1 (fun kv st2 q2 => GW.mono q2 (fun vv st3 zy3 => xAA zy3 fun e1 e2 e3 => ?_) fun _ _ z => z) fun _ _ z => z
   have hlen := aset_len1 es ro.1 ro.2
   refine ⟨ro.1, es, ep, e1, by rw [e3]; exact hd, by simp at hz; lia, fun ep' => ?_⟩
   rw [e2]
   refine CompW.dict hD hG r rs hr (aset es ro.1 ro.2) ep' _ Q (by simp at hz; lia) (fun x hx => ?_) (upd_same ..) hQ
   show upd st3.σ D _ x = _
   rw [upd_ne _ _ hx, e3]; exact hk x hx
theorem EW.dcomp {kx vx target iter : Expr} {scope : Scope} {pos : Pos} {cl : List (Str × Addr)} (hclos : closureFor scope env = pure cl)
   (H : ItE p n b env target iter (fun items G st1 => (∀ σ', (∀ a o, st1.σ a = some o → σ' a = some o) → G σ') ∧ items.length ≤ 16777216 ∧ ∃ rs, (∀ C, ElemsD (ItemD p n (compEnvC scope cl C env) target kx vx st1.σ) items rs) ∧ ∀ D ep, st1.σ D = none → Q (.ref D) (st1.put D (.dict (asetAll [] rs) ep))) X st)
   (hb : b ≠ .handler := by decide) (hcell : ∀ x ∈ scope.names, x.2 ≠ .cell := by decide +kernel) (hnames : ∀ x ∈ scope.names, x.2 = .local → scope.names.lookup x.1 = some .local := by decide +kernel) (hkind : scope.kind = .function := by rfl)
   (hs : ∀ x, foldedSetIterable iter env x = pure x := by intro _; rfl) : EW p n b env (.DictComp kx vx [⟨target, iter, [], 0⟩] scope pos) Q X st := by
 refine EW.compG (g := ⟨target, iter, [], 0⟩) (gs := []) (cl := cl) (body := fun D cenv => emitD kx vx D cenv)
   (inner := fun C D Q st => EW p n .comp (compEnvX scope cl C env) kx (fun kv st1 => EW p n .comp (compEnvX scope cl C env) vx (fun vv st2 => ∃ x es ep, kv = .str x ∧ st2.σ D = some (.dict es ep) ∧ es.length ≤ 16777216 ∧ ∀ ep', Q (st2.put D (.dict (aset es x vv) ep'))) No st1) No st)
   rfl rfl hclos hnames newA_dict (fun _ _ => compAt_D) hb (fun C D Q st h => emitD_w h) ?_ hkind hs
 refine fun A outer h₀ s hid P hA S K => H A outer h₀ s hid P hA S fun s' h₁ it as os J items G st1 k I hf hl hJ S1 zy4 => xAAEA zy4 fun hG hz rs hE hq => K s' h₁ it as os J items G st1 k I hf hl hJ S1 fun C D hD hDC hC => ?_
 rw [envX_plain hcell, cells0 hcell]
 exact CompW.dict hD hG items rs (hE C) [] 0 _ _ (by simpa using hz) (fun a ha => upd_ne _ _ ha) (upd_same ..) fun st' ep' h1 h2 => ⟨fun a o e => by rw [h1 a fun z => by rw [z, hD] at e; exact xns e]; exact e, _, h2, hq D ep' hD⟩
end
section
theorem XW.assignLcomp {x : String} {pos' spos : Pos} {elt target iter : Expr} {ifs : List Expr} {scope : Scope} {pos : Pos} {cl : List (Str × Addr)} {Q : AF → St → Prop} (hclos : closureFor scope env = pure cl)
   (H : ItE p n b env target iter (fun items G st1 => (∀ σ', (∀ a o, st1.σ a = some o → σ' a = some o) → G σ') ∧ items.length ≤ 16777216 ∧ ∃ rs, (∀ C, ElemsW (ItemW p n (compEnvC scope cl C env) target ifs elt st1.σ) items rs) ∧ Q .next (st1.set x (.lst (rs.filterMap id)))) X st)
   (hb : b ≠ .handler := by decide) (hcell : ∀ x ∈ scope.names, x.2 ≠ .cell := by decide +kernel) (hnames : ∀ x ∈ scope.names, x.2 = .local → scope.names.lookup x.1 = some .local := by decide +kernel) (hkind : scope.kind = .function := by rfl)
   (hs : ∀ x, foldedSetIterable iter env x = pure x := by intro _; rfl) (hl : env.kindOf (Str.ofString x) = some .local := by rfl)
   (hsw : swapsWith (.ListComp elt [⟨target, iter, ifs, 0⟩] scope pos) (some (.Name (Str.ofString x) pos')) spos.line env = pure true := by rfl) : XW p n b env (.Assign [.Name (Str.ofString x) pos'] (.ListComp elt [⟨target, iter, ifs, 0⟩] scope pos) spos) Q X st := by
 refine GW.mk fun A outer h₀ s hid hA S => ?_
 show wpAny _ A (exec _ env) _ _ s
 rw [exec_Assign_Name_used _ _ _ _ hsw]
 refine wpAny_bind (wpAny_standAt (wpAny_bind ?_))
 rw [arm_evalThenUse_ListComp]
 refine wpAny_bind (wpAny_comprehension_free (g := ⟨target, iter, ifs, 0⟩) (gs := []) (cl := cl) rfl hs hclos hkind hnames (H _ _ _ _ _ _ hA S fun s2 h2 it as os J items G st1 k02 I hf hos hJ S2 zy1 => xAAEA zy1 fun hG hz rs hE hQ => ?_))
 refine comp_go (g := ⟨target, iter, ifs, 0⟩) (ao := .list []) (body := fun D cenv => emitL elt (.ref D) cenv)
   (inner := fun C D Q st => elIn p n (compEnvX scope cl C env) elt (fun a Q st1 => ∃ l, st1.σ D = some (.list l) ∧ l.length ≤ 16777216 ∧ Q (st1.put D (.list (l ++ [a])))) Q st)
   (Q := fun D st2 => (∀ a o, st1.σ a = some o → st2.σ a = some o) ∧ st2.σ D = some (.list (rs.filterMap id)))
   hA hb hkind newA_list (fun zw zw => compAt_L) (fun C D Q st h => emitL_w h) I hf hJ hos S2 (fun C D hD hDC hC => ?_) fun D C s' h₄ st' m' k4 hC hD S6 zy2 => xA zy2 fun hk ho => ?_
 · rw [envX_plain hcell, cells0 hcell]
   exact CompW.acc stepL hD hG items rs (hE C).toP (fun zw zw => trivial) [] _ _ _ trivial (by simpa using hz) (fun a ha => upd_ne _ _ ha) (upd_same ..) rfl fun st' ao h1 h2 h3 => ⟨fun a o e => by rw [h1 a fun z => by rw [z, hD] at e; exact xns e]; exact e, by rw [h2, h3, List.nil_append]⟩
 show wpAny _ _ (PySem.assign (.Name (Str.ofString x) pos') env (.ref D)) _ _ _
 refine wpAny_assign_Name ?_
 have S7 : Sat p env.locals outer h₄ s' (st1.put D (.list (rs.filterMap id))) (upd hid C (.frame m')) := S6.forget (fun zw zw z => z) fun a o e => by
   have e' : upd st1.σ D (.list (rs.filterMap id)) a = some o := e
   by_cases z : a = D
   · subst z; rw [upd_same] at e'; cases Option.some.inj e'; exact ho
   · rw [upd_ne _ _ z] at e'; exact hk a o e'
 refine xEAA (S7.freeze (upd_same ..)) fun h₅ k5 S8 hv => ?_
 rw [put_del _ hD] at S8
 refine wpAny_mono (GF.at (storeW (n := n) (b := b) (env := env) (X := X) (Q := fun zw st' => st' = st1.set x (.lst (rs.filterMap id))) rfl hl) hA S8 hv ((k02.trans k4).trans k5)) (fun zw s3 z_ => z_.elim fun h6 zw st5 k6 S9 zw q => ?_) fun x s3 he => he.drop ((Ext.refl hid).upd hC) (.refl _) S.out
 subst q
 refine ⟨m', (S9.hidd C _ (upd_same ..)).1, fun h' hsb => (xA (S9.unhideF hC S.out) fun S10 u => ?_)⟩
 have S11 := S10.agree (s' := { s3 with heap := h' }) (fun a o e nu => (hsb.2 a fun z => nu (z ▸ u)).trans e) rfl rfl
 exact wpAny_pure (wpAny_pure (NP.mk S11 k6 .next hQ))
end
section
theorem EW.set1 {x : String} {y : Str} {npos pos : Pos} (hc : kdsCode p.K env.code = true) (hy : st.ρ x = some (.str y))
   (h : ∀ D T, (∀ z, T z = decide (z = y)) → st.σ D = none → Q (.ref D) (st.put D (.set T 1)))
   (hl : env.kindOf (Str.ofString x) = some .local := by rfl) (hd : (Str.ofString x == ("__debug__" : Str)) = false := by decide +kernel) : EW p n b env (.Set [.Name (Str.ofString x) npos] 0 pos) Q X st :=
 GW.mk fun A outer h₀ s hid hA S => by
   show wpAny _ A (eval _ env) _ _ s
   rw [arm_eval_Set]
   refine wpAny_bind (wpAny_standAt (wpAny_bind (kds_main S.inK hc fun b' => (kds_core (ts := [do let v ← eval (.Name (Str.ofString x) npos) env; standAt pos; pure v]) rfl rfl (by show (1 : Nat) ≤ 30; decide) rfl fun led => (kds_all pos [.Name (Str.ofString x) npos] _ _ ?_)))))
   refine xA (S.pushO (s' := { s with heap := s.heap.push { cls := .type "set", dict := none, data := .set #[] 0 (.fresh 0 0 led) } }) (.set (fun zw => false) 0) rfl rfl rfl
     ((setObjOf_fresh (knd := PySem.strKind p.prog p.w) led).setOf (Heap.get?_push_size _ rfl) (by unfold scanBound; lia))) fun f S' => ?_
   show wpAny _ A (eval (.Name (Str.ofString x) npos) env) _ _ _
   refine GW.use (EW.var (n := n) (b := b) (env := env) (X := X) (st := st.put s.heap.objs.size (.set (fun zw => false) 0)) (Q := fun a st1 => a = .str y ∧ st1 = st.put s.heap.objs.size (.set (fun zw => false) 0)) hy ⟨rfl, rfl⟩ hl hd) hA S' (.refl _) fun v s1 h1 a st1 k1 zw S1 hv zy1 => xA zy1 fun ha hst => ?_
   subst ha hst
   apply VR.onStr hv; intro t
   refine kds_fill_cons ?_
   unfold setAdd
   refine wpAny_holding (wpAny_bind ((PySem.strKind p.prog p.w).pyHash (is_str y t) ?_))
   have e1 : Heap.SetOf (PySem.strKind p.prog p.w) s1.heap s.heap.objs.size (fun zw => false) 0 := (S1.obj _ _ (upd_same ..)).1
   refine wpAny_setAddHashed_of (s := { s1 with toks := s1.toks + 1 }) (is_str y t) rfl e1 (by unfold scanBound; lia) fun h' hsb hS' => (kds_fill_nil rfl ?_)
   have S2 := S1.setO (s' := { s1 with heap := h', toks := s1.toks + 1 }) (ao' := .set (fun k' => false || decide (k' = y)) 1) (upd_same ..) hsb rfl rfl hS'
   have e2 : (st.put s.heap.objs.size (.set (fun zw => false) 0)).put s.heap.objs.size (.set (fun k' => false || decide (k' = y)) 1) = st.put s.heap.objs.size (.set (fun k' => false || decide (k' = y)) 1) := by
     show (⟨_, _⟩ : St) = ⟨_, _⟩
     congr 1
     exact upd_upd ..
   rw [e2] at S2
   exact NP.mk S2 k1 (.ref _) (h _ _ (fun z => by rfl) f)
end
theorem ForW.go {α : Type} {g : α → AV} {l : List α} {target : Expr} {body orelse : List Stmt} {G : (Addr → Option AObj) → Prop} {Q : AF → St → Prop} (I : List α → St → Prop) (hG : ∀ d st, I d st → G st.σ) (hnil : ∀ st, I l st → SW p n b env orelse Q X st)
   (hcons : ∀ d a r st, l = d ++ a :: r → I d st → AsW p n b env target (g a) (fun _ st1 => SW p n b env body (loopS (I (d ++ [a])) Q) X st1) X st) (h0 : I [] st) : ForW p n b env target body orelse G X (l.map g) Q st := by
 refine ForW.run (fun r st => ∃ d r', r = r'.map g ∧ l = d ++ r' ∧ I d st) (fun r st h => h.elim fun d h => h.elim fun _ h => hG d st h.2.2) ?_ ?_ _ _ ⟨[], l, rfl, rfl, h0⟩
 · intro st zz1; refine xEEAA zz1 fun d r hr e h => ?_
   cases r with
   | cons _ _ => exact xnc hr
   | nil => rw [List.append_nil] at e; subst e; exact hnil st h
 · intro v r st zz2; refine xEEAA zz2 fun d r' hr e h => ?_
   cases r' with
   | nil => exact xcn hr
   | cons a r' =>
     cases hr
     refine (hcons d a r' st e h).mono fun st1 H => GW.mono H (fun f st2 q => ?_) fun _ _ z => z
     cases f with
     | next => exact ⟨d ++ [a], r', rfl, by simp [e], q⟩
     | cont => exact ⟨d ++ [a], r', rfl, by simp [e], q⟩
     | brk => exact q
     | ret w => exact q
theorem asws_nil {Q : Unit → St → Prop} (h : Q () st) : AsWs p n b env X [] [] Q st := h
theorem enumA_idx {α : Type} (g : α → AV) : ∀ (l : List α) (k : Nat), enumA k (l.map g) = (l.zipIdx k).map fun x => AV.tup [.int (x.2 : Nat), g x.1]
 | [], _ => rfl
 | a :: l, k => by
   have := enumA_idx g l (k + 1)
   show AV.tup [.int k, g a] :: enumA ((k : Int) + 1) (l.map g) = _
   rw [show ((k : Int) + 1) = ((k + 1 : Nat) : Int) from rfl, this]
   rfl
theorem enumA_idx0 {α : Type} (g : α → AV) (l : List α) : enumA 0 (l.map g) = l.zipIdx.map fun x => AV.tup [.int (x.2 : Nat), g x.1] := enumA_idx g l 0
theorem era_upd {σ : Addr → Option AObj} {a : Addr} {o : AObj} (ha : σ a = none) : era (upd σ a o) a = σ := by
 funext x
 by_cases hx : x = a
 · subst hx; rw [era_same]; exact ha.symm
 · rw [era_ne _ hx, upd_ne _ _ hx]
noncomputable def mkD (x y c : Nat) : List Nat := if c = x then [32, 32] else if c = y then [45, 32] else [43, 32]
noncomputable def deltaW (w : List Nat) (x y : Nat) : List (List Nat) := w.map fun c => mkD x y c ++ [c]
theorem W_both : Str.ofString "  " = W [32, 32] := by decide +kernel
theorem W_minus : Str.ofString "- " = W [45, 32] := by decide +kernel
theorem W_plus : Str.ofString "+ " = W [43, 32] := by decide +kernel
theorem mkD_len (x y c : Nat) : (mkD x y c).length = 2 := by unfold mkD; split; rfl; split <;> rfl
theorem delta_body {L' f : Addr} {q : Str} {cd : Value} {w : List Nat} {x y : Nat} {σ : Addr → Option AObj} {Q : AF → St → Prop} (hw : Asc w) (hz : w.length ≤ 1000)
   (h : ∀ st', st'.σ = σ → Q (.ret (.lst ((deltaW w x y).map wA))) st') :
   SW p n .body (mkEnv (fnScope (nthS P1 11)) L' f q cd) (fnBody (nthS P1 11)) Q X ⟨fun z => [("word", wA w), ("pair", wA [x, y])].reverse.lookup z, σ⟩ := by
 iterate 2 (first | refine SW.cons ?_ | refine XW.assign ?_ | refine XW.iff ?_ | refine XW.ret ?_ | refine XW.expr ?_ | refine TW.cmp ?_ | refine TW.not ?_ | refine EW.var (by first | exact rfl | assumption) ?_ | refine EW.int ?_ | refine EW.str ?_ | refine EW.bool ?_ | refine EW.noneC ?_ | refine EW.callM ?_ | refine EW.binop ?_ | refine EW.unop ?_ | refine EW.ifexp ?_ | refine EW.tup ?_ | refine EW.list ?_ | refine EW.cut ?_ | refine EW.sub ?_ | refine OW.no ?_ | refine OW.yes ?_ | refine LW.nil ?_ | refine LW.cons ?_ | refine AW.cons ?_ | refine AW.nil ?_ | refine truthy_bool ?_ | refine AsW.name ?_ | refine AsW.tup (by decide) ?_ | dsimp only)
 refine EW.listM (LW.nil ⟨fun a ha => ?_, by decide⟩)
 refine SW.cons (XW.for rfl (ItE.of (EW.var rfl ⟨_, _, iter_str hw, ?_⟩)))
 refine ForW.go (fun d st => st.ρ "pair" = some (wA [x, y]) ∧ st.ρ "rows" = some (.ref a) ∧ st.σ = upd σ a (.list ((deltaW d x y).map wA))) (fun _ _ _ => trivial) ?_ ?_ ⟨rfl, rfl, rfl⟩
 · intro st zz3; refine xAA zz3 fun h2 h3 h4 => ?_
   refine SW.nil ?_
   refine SW.cons (XW.ret (GW.frz ?_))
   refine EW.var h3 ⟨a, _, rfl, by rw [h4]; exact upd_same .., ?_⟩
   refine h _ ?_
   show era st.σ a = σ
   rw [h4]
   exact era_upd ha
 · intro d c r st e zz4; refine xAA zz4 fun h2 h3 h4 => ?_
   refine AsW.name (SW.cons (XW.assign (EW.ifexp (TW.cmp (EW.var rfl (EW.sub (EW.var h2 (EW.int (idx_str (c := x) (by decide) rfl (eqW (truthy_bool ?_)))))))))))
   have fin : ∀ m : List Nat, m = mkD x y c → SW p n .body (mkEnv (fnScope (nthS P1 11)) L' f q cd) ((forBody ((fnBody (nthS P1 11)).getD 1 dumS)).drop 1) (fun f st2 => match f with
     | .next | .cont => st2.ρ "pair" = some (wA [x, y]) ∧ st2.ρ "rows" = some (.ref a) ∧ st2.σ = upd σ a (.list ((deltaW (d ++ [c]) x y).map wA))
     | .brk => False
     | .ret w => False) X ((st.set "c" (cA c)).set "mark" (wA m)) := fun m hm => by
     subst hm
     refine SW.cons (XW.append (EW.var h3 ⟨a, rfl, (EW.binop (EW.var rfl (EW.var rfl (addW ?_ (by rw [mkD_len]; simp))))), _, by show st.σ a = _; rw [h4]; exact upd_same ..⟩))
     refine ⟨_, by show st.σ a = _; rw [h4]; exact upd_same .., ?_, ?_⟩
     · have : w.length = d.length + 1 + r.length := by rw [e]; simp; lia
       simp [deltaW]; lia
     refine SW.nil ⟨h2, h3, ?_⟩
     show upd st.σ a _ = _
     rw [h4, upd_upd]
     simp [deltaW]
   by_cases c1 : c = x
   · refine ite_t (by simp [c1]) (EW.str ?_)
     rw [W_both]
     exact (fin _ (by simp [mkD, c1])).mono (fun f st q => by cases f <;> first | exact q | exact q.elim) fun _ _ z => z
   · refine ite_f (by simp [c1]) (EW.ifexp (TW.cmp (EW.var rfl (EW.sub (EW.var h2 (EW.int (idx_str (c := y) (by decide) rfl (eqW (truthy_bool ?_)))))))))
     by_cases c2 : c = y
     · refine ite_t (by simp [c2]) (EW.str ?_)
       rw [W_minus]
       exact (fin _ (by simp [mkD, c2] <;> intro hx <;> exact absurd (c2.trans hx) c1)).mono (fun f st q => by cases f <;> first | exact q | exact q.elim) fun _ _ z => z
     · refine ite_f (by simp [c2]) (EW.str ?_)
       rw [W_plus]
       exact (fin _ (by simp [mkD, c1, c2])).mono (fun f st q => by cases f <;> first | exact q | exact q.elim) fun _ _ z => z
noncomputable def named (l : List Nat) : List (List Nat) := l.zipIdx.map fun x => [x.1, 48 + (l.take x.2).count x.1]
theorem W_dig : ∀ n : Nat, n < 10 → Str.ofString (toString (n : Int)) = W [48 + n] := by decide +kernel
theorem log_dig : ∀ n : Nat, n < 10 → (n : Int).natAbs.log2 < 1920 := by decide +kernel
theorem zip_lt {α : Type} {l : List α} {x : α × Nat} (h : x ∈ l.zipIdx) : x.2 < l.length ∧ l[x.2]? = some x.1 := by
 have := List.mem_zipIdx_iff_getElem?.mp h
 exact ⟨(List.getElem?_eq_some_iff.mp this).1, this⟩
noncomputable def retE : Stmt → Expr
 | .Return (some e) _ => e
 | _ => .Constant .none 0 ⟨0, 0, 0, 0⟩
noncomputable def lcE : Expr → Expr
 | .ListComp e _ _ _ => e
 | e => e
noncomputable def lcC : Expr → List Comprehension
 | .ListComp _ c _ _ => c
 | _ => []
noncomputable def lcS : Expr → Scope
 | .ListComp _ _ s _ => s
 | _ => fnScope (.Pass ⟨0, 0, 0, 0⟩)
noncomputable def lcT (e : Expr) : Expr := ((lcC e).map (·.target)).getD 0 e
noncomputable def lcI (e : Expr) : List Expr := ((lcC e).map (·.ifs)).getD 0 []
noncomputable def nmE : Expr := retE ((fnBody (nthS P1 12)).getD 0 dumS)
theorem b_named (fd : FuncData) (h1 : fd.params = fnArgs (nthS P1 12)) (h2 : fd.defaults = .none) (h3 : fd.kwdefaults = .none) (v : Value) : bindArgs fd ⟨[v], []⟩ = pure [(Str.ofString "letters", v)] := b_any h1 h2 h3 fun _ => rfl
noncomputable def Lets (a : AV) (l : List Nat) : Prop := a = wA l ∧ Asc l ∨ a = .lst (l.map cA)
theorem call_named {f : Addr} {a : AV} {l : List Nat} (F0 : FnK p f (nthS P1 12) .none) (hB : KB p) (hb : b ≠ .handler) (ha : Lets a l) (hz : l.length ≤ 9) (h : Q (.lst ((named l).map wA)) st) : CW p (n + 1) b env (.ref f) [a] Q X st := by
 refine xEE F0.ex fun fo fd K => (callFnCC K (bind1 K b_named) hb (by intro y hy; simp only [List.mem_cons, List.not_mem_nil, or_false] at hy; subst hy; exact .inr rfl) (by decide +kernel) rfl rfl rfl fun L' q cd hcd hfr => (SW.cons (XW.ret (GW.loose ?_))))
 have hσ : ∀ σ' : Addr → Option AObj, (∀ x o, upd st.σ (L' + 1) (.cell (some a)) x = some o → σ' x = some o) → σ' (L' + 1) = some (.cell (some a)) := fun σ' h => h _ _ (upd_same ..)
 have fin : ∀ (st1 : St), st1.σ = upd st.σ (L' + 1) (.cell (some a)) → ∃ st2 : St, (∀ x v, st2.ρ x = some v → st1.ρ x = some v) ∧ (∀ a o, st2.σ a = some o → st1.σ a = some o) ∧ Q (.lst ((named l).map wA)) ⟨st.ρ, st2.σ⟩ := fun st1 e => by
   refine ⟨⟨fun zw => none, st.σ⟩, (by intro x v hx; exact xns hx), (fun y o ho => ?_), h⟩
   rw [e]
   rw [upd_ne]
   · exact ho
   · intro hy
     rw [hy, hfr _ (by lia)] at ho
     exact xns ho
 have hit : ∀ (σ : Addr → Option AObj), σ (L' + 1) = some (.cell (some a)) → ∀ C, ElemsW (ItemW p n (compEnvC (lcS nmE) [(Str.ofString "letters", L' + 1)] C (mkEnvC (fnScope (nthS P1 12)) L' f q cd))
     (lcT nmE) []
     (lcE nmE) σ) (l.zipIdx.map fun x => AV.tup [.int (x.2 : Nat), cA x.1]) (l.zipIdx.map fun x => some (wA [x.1, 48 + (l.take x.2).count x.1])) := fun σ hσ0 C => by
   refine ElemsW.of l.zipIdx _ _ fun x hx => (xA (zip_lt hx) fun hlt zw => ?_)
   have hc9 : (l.take x.2).count x.1 < 10 := by
     have := List.count_le_length (a := x.1) (l := l.take x.2)
     simp at this; lia
   intro st0 h0
   have hv : st0.σ (L' + 1) = some (.cell (some a)) := h0 _ _ hσ0
   refine AsW.tup (by decide) (AsW.name (AsW.name (asws_nil (tests_nil (ite_t rfl (EW.binop (EW.var rfl (EW.callT hB.str bb_str (AW.cons (LW.cons (EW.callM (EW.cut (EW.varC hv (OW.no (OW.yes (EW.var rfl ?_))) rfl)))))))))))))
   rcases ha with ⟨rfl, hasc⟩ | rfl
   · refine cutW_upto (by lia) (MW.builtin recv_str F.plainAttrs_str F.slot_str_count F.type_str_count (AW.cons (LW.cons (EW.var rfl (LW.nil (call_countS (LW.nil (call_str_int ?_ (log_dig _ hc9))))))))) (by lia)
     rw [W_dig _ hc9]
     exact addW ⟨rfl, rfl⟩ (by simp)
   · refine cut_upto (.inl rfl) (MW.builtin (recv_list (.inl rfl)) F.plainAttrs_list F.slot_list_count F.type_list_count (AW.cons (LW.cons (EW.var rfl (LW.nil ?_))))) (by simp; lia)
     rw [← List.map_take]
     refine call_countL (.inl rfl) (LW.nil (call_str_int ?_ (log_dig _ hc9)))
     simp only [Int.toNat_natCast]
     rw [W_dig _ hc9]
     exact addW ⟨rfl, rfl⟩ (by simp)
 have hres : (l.zipIdx.map fun x => some (wA [x.1, 48 + (l.take x.2).count x.1])).filterMap id = (named l).map wA := by
   rw [some_map, named, List.map_map]; rfl
 refine EW.lcomp (cl := [(Str.ofString "letters", L' + 1)]) rfl ?_
 rcases ha with ⟨rfl, hasc⟩ | rfl
 · refine ItE.enumS hB.enumerate (by decide) ?_
   refine EW.varC (ca := L' + 1) (v := wA l) (upd_same ..) ⟨l, rfl, hasc, fun zw zw => trivial, by rw [enumA_idx0]; simp; lia, l.zipIdx.map fun x => some (wA [x.1, 48 + (l.take x.2).count x.1]), fun C => ?_, ?_⟩ rfl
   · rw [enumA_idx0]
     exact hit _ (upd_same ..) C
   · rw [hres]; exact fin _ rfl
 · refine ItE.enum hB.enumerate ?_
   refine EW.varC (ca := L' + 1) (v := .lst (l.map cA)) (upd_same ..) ⟨_, .inl rfl, fun zw zw => .inl rfl, by rw [enumA_idx0]; simp; lia, l.zipIdx.map fun x => some (wA [x.1, 48 + (l.take x.2).count x.1]), fun C => ?_, ?_⟩ rfl
   · rw [enumA_idx0]
     exact hit _ (upd_same ..) C
   · rw [hres]; exact fin _ rfl
noncomputable abbrev Told := List (List Nat × List Nat)
noncomputable def toldE (T : Told) : List (Str × AV) := T.map fun t => (W t.1, .lst (t.2.map cA))
noncomputable def keys (T : Told) : List (List Nat) := T.map (·.1)
noncomputable def sgT (T : Told) (g : List Nod) : List Nod := T.foldl (fun g t => chainAdd g none ((named t.2).map W)) g
theorem zip_split {α : Type} {l : List α} {d r : List (α × Nat)} {a : α × Nat} (h : l.zipIdx = d ++ a :: r) : l = d.map (·.1) ++ a.1 :: r.map (·.1) ∧ a.2 = d.length := by
 constructor
 · have := congrArg (List.map (·.1)) h
   rwa [List.zipIdx_map_fst, List.map_append, List.map_cons] at this
 · have h1 : (l.zipIdx)[d.length]? = some a := by rw [h]; simp
   rw [List.getElem?_zipIdx] at h1
   refine xEA (Option.map_eq_some_iff.mp h1) fun x _ e => ?_
   rw [← e]; simp
theorem aget_told {T : Told} (hn : (keys T).Nodup) {t : List Nat × List Nat} (ht : t ∈ T) : aget (toldE T) (W t.1) = some (.lst (t.2.map cA)) := by
 unfold aget toldE
 induction T with
 | nil => cases ht
 | cons u T ih =>
   have hn' := List.nodup_cons.mp hn
   cases ht with
   | head _ => simp
   | tail _ ht =>
     have : W u.1 ≠ W t.1 := fun e => hn'.1 (by show u.1 ∈ _; rw [W_inj e]; exact List.mem_map.mpr ⟨t, ht, rfl⟩)
     have h2 := ih hn'.2 ht
     simp only [List.map_cons, List.find?_cons]
     rw [decide_eq_false this]
     exact h2
theorem named_len (l : List Nat) : (named l).length = l.length := by simp [named]
theorem chain_snoc (x : Str) : ∀ (dn : List Str) (g : List Nod) (q : Option Str), chainAdd g q (dn ++ [x]) = gAdd (chainAdd g q dn) x (dn.getLast?.or q).toList
 | [], g, q => rfl
 | y :: dn, g, q => by
   show chainAdd (gAdd g y q.toList) (some y) (dn ++ [x]) = _
   rw [chain_snoc x dn]
   cases dn with
   | nil => rfl
   | cons z dn =>
     rw [List.getLast?_cons_cons]
     have : ∃ u, (z :: dn).getLast? = some u := ⟨_, List.getLast?_eq_some_getLast (List.cons_ne_nil z dn)⟩
     refine xE this fun u hu => ?_
     rw [hu]; rfl
theorem sorter_body {L' f : Addr} {q : Str} {cd : Value} {T : Told} {D : Addr} {ep : Nat} {σ : Addr → Option AObj} {fn : Addr} {Q : AF → St → Prop} (hS : KS2 p ad) (hB : KB p) (hN : KF1 p "_law_named" fn (nthS P1 12)) (hD : σ D = some (.dict (toldE T) ep)) (hn : (keys T).Nodup)
   (hT : T.length ≤ 10) (hz : ∀ t ∈ T, t.2.length ≤ 5) (h : ∀ x st', Fresh ad (era st'.σ D) x (sgT T []) 50 → st'.σ D = some (.dict (toldE T) ep) → Q (.ret (.ref x)) st') :
   SW p (n + 4) .body (mkEnv (fnScope (nthS P1 13)) L' f q cd) (fnBody (nthS P1 13)) Q X ⟨fun y => [("told", AV.ref D)].reverse.lookup y, σ⟩ := by
 refine SW.cons (XW.assign (GW.frame (a := D) hD (EW.callK hS.nsT hS.keepT (AW.nil (CC.cw (callNew hS (by decide) fun S σ1 hR hI hr h1 h2 hnn => (SW.cons (XW.for rfl (ItE.of (EW.var rfl ⟨_, _, iter_dict (ep := ep) (es := toldE T) (upd_same ..), ?_⟩))))))))))
 rw [show (toldE T).map (fun x => AV.str x.1) = T.map fun t => wA t.1 from by rw [toldE, List.map_map]; rfl]
 refine ForW.go (fun d st => st.ρ "told" = some (.ref D) ∧ st.ρ "sorter" = some (.ref S.x) ∧ st.σ D = some (.dict (toldE T) ep) ∧ Fresh ad (era st.σ D) S.x (sgT d []) (5 * d.length)) (fun _ _ h => h.2.2.1) ?_ ?_ ⟨rfl, rfl, upd_same .., ?_⟩
 · intro st zz1; refine xAAA zz1 fun e1 e2 e3 e4 => ?_
   refine SW.nil (SW.cons (XW.ret ?_))
   refine EW.var e2 (h _ _ ⟨e4.ex, ?_, fun y hy => ?_⟩ e3)
   · have := e4.len; lia
   · have := e4.ss y hy; lia
 · intro d t r st e zz2; refine xAAA zz2 fun e1 e2 e3 e4 => ?_
   have htm : t ∈ T := by rw [e]; simp
   have ht5 := hz t htm
   have hdl : T.length = d.length + 1 + r.length := by rw [e]; simp; lia
   refine AsW.name (SW.cons (XW.assign (EW.callK hN.ns hN.keep (AW.cons (LW.cons (EW.sub (EW.var e1 (EW.var rfl (idx_dict e3 (aget_told hn htm) (LW.nil (call_named hN.fn hB (by decide) (.inr rfl) (by lia) (SW.cons (XW.for rfl (ItE.enum hB.enumerate (EW.var rfl ⟨_, .inl rfl, ?_⟩)))))))))))))))
   have hm : (named t.2).map wA = ((named t.2).map W).map .str := by rw [List.map_map]; rfl
   have hnl : ((named t.2).map W).length ≤ 5 := by simp [named_len]; lia
   rw [hm]
   generalize hside : (named t.2).map W = side at hnl
   rw [enumA_idx0]
   refine ForW.go (fun d' st' => st'.ρ "told" = some (.ref D) ∧ st'.ρ "sorter" = some (.ref S.x) ∧ st'.ρ "named" = some (.lst (side.map .str)) ∧ st'.σ D = some (.dict (toldE T) ep) ∧ Fresh ad (era st'.σ D) S.x (chainAdd (sgT d []) none (d'.map (·.1))) (5 * d.length + d'.length)) (fun _ _ _ => .inl rfl) ?_ ?_ ⟨e1, e2, rfl, e3, e4⟩
   · intro st' zz3; refine xAAAA zz3 fun f1 f2 f3 f4 f5 => ?_
     refine SW.nil (SW.nil ⟨f1, f2, f4, ?_⟩)
     rw [List.zipIdx_map_fst] at f5
     have hg : sgT (d ++ [t]) [] = chainAdd (sgT d []) none side := by rw [sgT, List.foldl_append, ← hside]; rfl
     rw [hg]
     have hl : side.zipIdx.length ≤ 5 := by rw [List.length_zipIdx]; exact hnl
     refine ⟨f5.ex, ?_, fun y hy => ?_⟩
     · have := f5.len; simp; lia
     · have := f5.ss y hy; simp; lia
   · intro d' a r' st' e' zz4; refine xAAAA zz4 fun f1 f2 f3 f4 f5 => ?_
     refine xA (zip_split e') fun hsp ha2 => ?_
     obtain ⟨⟨S1, hR1, hSx, hSr, hSp, hSn, hSg⟩, hFl, hFs⟩ := id f5
     have hlen : side.length = d'.length + 1 + r'.length := by rw [hsp]; simp; lia
     refine xE hR1.hdx fun ep1 hdx => (AsW.tup (by decide) (AsW.name (AsW.name (asws_nil (SW.cons (XW.expr (GW.frame (a := D) f4 (EW.callStar (x := S.x) (C := ad.cT) (dx := S1.dx) (f := ad.add) hS.clsT hS.mAdd (EW.var f2 ⟨rfl, ⟨_, ep1, hSx ▸ hR1.hx, hdx, ag_add⟩, (EW.var rfl (EW.cut (EW.var f3 (OW.yes (EW.callB hB.max bb_max (AW.cons (LW.cons (EW.binop (EW.var rfl (EW.int (sub_int (LW.cons (EW.int (LW.nil (call_max (OW.yes (EW.var rfl ?_)) (by decide))))))))))))))))⟩)))))))))
     refine cut_run (.inl rfl) ?_ (by simp; lia) (by split <;> lia)
     have hcut := cut_last (d'.map (·.1)) (a.1 :: r'.map (·.1))
     rw [← hsp, List.length_map] at hcut
     rw [ha2, hcut]
     have hp1 : ((d'.map (·.1)).getLast?.toList).length ≤ 1 := by cases (d'.map (·.1)).getLast? <;> simp
     refine ⟨_, .inl rfl, by rw [List.length_map]; lia, ?_⟩
     rw [← hSx] at f2 f5 ⊢
     refine callAdd hS hB (by decide) hR1 hSr (B := 5 * d.length + d'.length) ?_ (by rw [hSg]; exact hFs) (by lia) fun S' σ' hR' hl' hg2 hnone => ?_
     · have : S1.infos.length = (chainAdd (sgT d []) none (d'.map (·.1))).length := by rw [← hSg]; simp
       lia
     refine SW.nil ⟨f1, f2, f3, upd_same .., ?_⟩
     show Fresh ad (era (upd σ' D _) D) _ _ _
     rw [era_upd hnone, List.map_append, List.map_singleton, chain_snoc, Option.or_none, List.length_append, List.length_singleton, ← Nat.add_assoc]
     exact f5.add hp1 rfl hSr hSp hSn hSg hR' hl' hg2
 · show Fresh ad (era (upd σ1 D _) D) _ _ _
   rw [era_upd hnn]
   exact ⟨⟨S, hR, rfl, hr, h1, h2, by rw [hI]; rfl⟩, by simp [sgT], fun y hy => by cases hy⟩
theorem era_over {σ : Addr → Option AObj} {a : Addr} {o : AObj} : era (upd σ a o) a = era σ a := by
 funext y
 by_cases hy : y = a
 · subst hy; rw [era_same, era_same]
 · rw [era_ne _ hy, era_ne _ hy, upd_ne _ _ hy]
structure KB2 (p : PC) : Prop extends KB p where
 sorted : nsIn p.K mainGlobals (Str.ofString "sorted") = some none
theorem bb_sorted : bootBuiltins (Str.ofString "sorted") = some (.builtin "sorted") := by decide +kernel
theorem smooth_body {L' f : Addr} {q : Str} {cd : Value} {σ : Addr → Option AObj} {S : Srt} {Q : AF → St → Prop} (hS : KS2 p ad) (hC : KC p ad) (hB : KB p) (hR : SR ad σ S) (hr : S.ready = none)
   (hz : S.infos.length ≤ 400) (hcl : ∀ z ∈ S.infos, ∀ y ∈ z.ss, ∃ w ∈ S.infos, w.name = y)
   (h : ∀ st' D (c : Bool), SR ad st'.σ { S with ready := some (D, readyOf (S.infos.map Info.nod)) } → (c = false ↔ Cyc (S.infos.map Info.nod)) → Q (.ret (.bool c)) st') :
   SW p (n + 2) .body (mkEnv (fnScope (nthS P1 14)) L' f q cd) (fnBody (nthS P1 14)) Q X ⟨fun y => [("sorter", AV.ref S.x)].reverse.lookup y, σ⟩ := by
 refine xE hR.hdx fun ep1 hdx => (SW.cons ?_)
 refine XW.tryK (C := ad.cyc) (bmB := bmV) (newId := "ValueError.__new__") ?t1 ?t2 ?t3 ?t4 ?t5 ?t6 ?t7
 case t1 => decide
 case t2 => exact hS.nsC
 case t3 => exact hC.own
 case t4 => decide
 case t6 => rfl
 case t7 => decide +kernel
 refine SW.cons (XW.expr (EW.callM (EW.var rfl (MW.own hR.hx hdx hS.clsT hS.mPrep rfl (AW.nil ?_)))))
 refine CC.cw (callPrep hS hC hB (by decide) hR hr hz hcl (fun σ' D hR' hc => ?_) fun σ' D hR' hc => ⟨rfl, ?_⟩)
 · refine SW.nil ?_
   exact SW.cons (XW.ret (EW.bool (h _ D true hR' ⟨fun z => (by exact xtf z), fun z => (hc z).elim⟩)))
 · exact SW.cons (XW.ret (EW.bool (h _ D false hR' ⟨fun zw => hc, fun zw => rfl⟩)))
noncomputable def doneAll (l : List Str) (a : List Nod × List Str) : List Nod × List Str := l.foldl (fun a x => gDone a.1 a.2 x) a
noncomputable def GClosed (g : List Nod) : Prop := ∀ z ∈ g, z.ss.length ≤ 50 ∧ ∀ y ∈ z.ss, ∃ w ∈ g, w.name = y
noncomputable def DoneOK : List Str → List Nod × List Str → Prop
 | [], _ => True
 | x :: r, a => npOf a.1 x = -1 ∧ (∃ z ∈ a.1, z.name = x) ∧ a.2.length ≤ 900 ∧ GClosed a.1 ∧ (reprText x).length ≤ 1000 ∧ DoneOK r (gDone a.1 a.2 x)
theorem callDoneL {σ : Addr → Option AObj} {ρ : String → Option AV} {S : Srt} {D : Addr} {l nodes : List Str} (hS : KS2 p ad) (hB : KB p) (hb : b ≠ .handler) (hR : SR ad σ S) (hr : S.ready = some (D, l))
   (hz : nodes.length ≤ 1000) (hok : DoneOK nodes (S.infos.map Info.nod, l))
   (h : ∀ σ' infos', SR ad σ' { S with infos := infos', ready := some (D, (doneAll nodes (S.infos.map Info.nod, l)).2), nf := S.nf + nodes.length } → infos'.map Info.nod = (doneAll nodes (S.infos.map Info.nod, l)).1 → Q .none ⟨ρ, σ'⟩) : CC p (n + 1) b env (.ref ad.done) (.ref S.x :: nodes.map .str) Q X ⟨ρ, σ⟩ := by
 refine xEE hS.fDone.ex fun fo fd F => (xE hR.hdx fun ep1 hdx => ?_)
 have hdx' := hdx
 rw [hr] at hdx'
 refine callFnC F (bindDone (rest := nodes.map .str) (by simpa using hz) F) hb (by intro y hy; simp only [List.mem_cons, List.not_mem_nil, or_false] at hy; rcases hy with rfl | rfl <;> rfl) (by decide +kernel) rfl rfl rfl fun L' q cd => ?_
 refine SW.cons (XW.iff (TW.cmp (EW.attr (EW.var rfl (ga_dict hR.hx hdx' hS.clsT hS.dictT hS.f2 ag_ready (EW.noneC (is_none_f (by intro z; exact xav z rfl) (truthy_bool (ite_f (by decide) (SW.nil ?_))))))))))
 refine SW.cons (XW.assign (EW.attr (EW.var rfl (ga_dict hR.hx hdx' hS.clsT hS.dictT hS.f1 ag_n2i ?_))))
 refine SW.cons (XW.for rfl (ItE.of (EW.var rfl ⟨_, _, iter_tup, ?_⟩)))
 refine ForW.go (fun d st => ∃ r infos' l', nodes = d ++ r ∧ st.ρ "self" = some (.ref S.x) ∧ st.ρ "n2i" = some (.ref S.nd) ∧ SR ad st.σ { S with infos := infos', ready := some (D, l'), nf := S.nf + d.length } ∧ DoneOK r (infos'.map Info.nod, l') ∧ doneAll r (infos'.map Info.nod, l') = doneAll nodes (S.infos.map Info.nod, l))
   (fun zw zw zw => trivial) ?_ ?_ ⟨nodes, S.infos, l, rfl, rfl, rfl, ?_, hok, rfl⟩
 · intro st zz1; refine xEEEAAAAA zz1 fun r infos' l' e h1 h2 hR' zw hd => ?_
   have : r = [] := by simpa using e
   subst this
   refine SW.nil ?_
   refine SW.nil ?_
   have hd1 := congrArg (·.1) hd
   have hd2 := congrArg (·.2) hd
   dsimp only [doneAll, List.foldl_nil] at hd1 hd2
   refine h _ infos' ?_ hd1
   rw [hd2] at hR'
   exact hR'
 · intro d x r st e zz2; refine xEEEAAAAA zz2 fun r' infos' l' e' h1 h2 hR' hok' hd => ?_
   have : r' = x :: r := by rw [e] at e'; exact (List.append_cancel_left e').symm
   subst this
   refine xAAAAA hok' fun c1 zz3 c3 c4 c5 c6 => ?_; obtain ⟨z, hz1, hz2⟩ := zz3
   refine xEA (List.mem_map.mp hz1) fun i hi zz4 => ?_; subst zz4
   subst hz2
   have hnp : i.np = -1 := (npOf_eq (z := i.nod) (by rw [List.map_map]; exact hR'.names) (List.mem_map_of_mem hi)).symm.trans c1
   refine AsW.name ?_
   refine done_one (S := { S with infos := infos', ready := some (D, l'), nf := S.nf + d.length }) (i := i) hS hB hR' rfl h1 h2 rfl hi hnp (by have := (c4 i.nod (List.mem_map_of_mem hi)).1; have h3 : i.ss.length ≤ 50 := this; lia) (fun y hy => ?_) fun st' infos2 hρ hR2 hg2 => ?_
   · refine xEA ((c4 i.nod (List.mem_map_of_mem hi)).2 y hy) fun w hw e => ?_
     refine xEA (List.mem_map.mp hw) fun w' hw' zz5 => ?_; subst zz5
     exact ⟨w', hw', e⟩
   · refine ⟨r, infos2, (gDone (infos'.map Info.nod) l' i.name).2, by rw [e]; simp, (hρ _ (by decide) (by decide) (by decide) (by decide)).trans h1, (hρ _ (by decide) (by decide) (by decide) (by decide)).trans h2, ?_, ?_, ?_⟩
     · have e3 : S.nf + ((d ++ [i.nod.name]).length : Nat) = S.nf + (d.length : Nat) + 1 := by rw [List.length_append]; exact (Int.add_assoc S.nf d.length 1).symm
       rw [e3]; exact hR2
     · rw [hg2]; exact c6
     · rw [hg2]; exact hd
 · have e0 : S.nf + (([] : List Str).length : Nat) = S.nf := Int.add_zero _
   rw [e0, ← hr]; exact hR
noncomputable def GRun : List (List Str) → List Nod → List Str → Prop
 | [], _, rd => rd = []
 | r :: rest, g, rd => rd = r ∧ r ≠ [] ∧ r.length < 64 ∧ (∀ y ∈ r, Dat (.str y) ∧ ∃ z ∈ g, z.name = y) ∧ DoneOK r (gOut g r, []) ∧ GRun rest (doneAll r (gOut g r, [])).1 (doneAll r (gOut g r, [])).2
noncomputable def grpA (s : List Str) : AV := .lst (s.map .str)
noncomputable def SortedOf (s r : List Str) : Prop := s.Perm r ∧ sortedS s = true
inductive Groups : List (List Str) → List (List Str) → Prop
 | nil : Groups [] []
 | snoc {gs rs : List (List Str)} {s r : List Str} : Groups gs rs → SortedOf s r → Groups (gs ++ [s]) (rs ++ [r])
theorem Groups.len {gs rs : List (List Str)} (h : Groups gs rs) : gs.length = rs.length := by
 induction h with
 | nil => rfl
 | snoc _ _ ih => simp [ih]
theorem ne_tup0 {l : List Str} (hd : ∀ x ∈ l, Dat (.str x)) (h : Q (.bool (!l.isEmpty)) st) : GV2 p n b env (.tup (l.map .str)) (.tup []) VR (compareOp .NotEq) Q X st := by
 refine xAA (dat_strs hd) fun d1 d2 d3 => (ne_data (a := .tup (l.map .str)) (c := .tup []) ⟨d1, d2, d3⟩ ⟨rfl, rfl, by show (0 + 1 : Nat) ≤ 50; decide⟩ ?_)
 have : PyData.eqv (toD (.tup (l.map .str))) (toD (.tup [])) = l.isEmpty := by cases l <;> rfl
 rw [this]; exact h
theorem groups_body {L' f : Addr} {q : Str} {cd : Value} {σ : Addr → Option AObj} {S : Srt} {D : Addr} {l : List Str} {rds : List (List Str)} {Q : AF → St → Prop} (hS : KS2 p ad) (hB : KB2 p) (hR : SR ad σ S) (hr : S.ready = some (D, l))
   (hrun : GRun rds (S.infos.map Info.nod) l) (hl : rds.length ≤ 1000)
   (h : ∀ st' gs, Groups gs rds → Q (.ret (.lst (gs.map grpA))) st') :
   SW p (n + 1) .body (mkEnv (fnScope (nthS P1 15)) L' f q cd) (fnBody (nthS P1 15)) Q X ⟨fun y => [("sorter", AV.ref S.x)].reverse.lookup y, σ⟩ := by
 refine SW.cons (XW.assign (EW.listM (LW.nil ⟨fun a ha => ?_, by decide⟩)))
 have get : ∀ (st1 : St) (S1 : Srt) (l1 : List Str) (rds1 : List (List Str)) (ls : List AV) (Q' : AV → St → Prop), st1.ρ "sorter" = some (.ref S.x) → st1.σ a = some (.list ls) → SR ad (era st1.σ a) S1 → S1.x = S.x → S1.ready = some (D, l1) → GRun rds1 (S1.infos.map Info.nod) l1 →
     (∀ σ' S2, SR ad (era σ' a) S2 → S2.x = S.x → S2.ready = some (D, []) → S2.infos.map Info.nod = gOut (S1.infos.map Info.nod) l1 → σ' a = some (.list ls) → Q' (.tup (l1.map .str)) ⟨st1.ρ, σ'⟩) →
     ∀ (p1 p2 p3 : Pos) (pl : Sem Bool), eval (.Call (.Attribute (.Name (Str.ofString "sorter") p1) (Str.ofString "get_ready") p2) [] [] p3) (mkEnv (fnScope (nthS P1 15)) L' f q cd) = (do
       let ov ← eval (.Name (Str.ofString "sorter") p1) (mkEnv (fnScope (nthS P1 15)) L' f q cd)
       standAt p2.atName
       let (f', first) ← holding [ov] (getMethod ov (Str.ofString "get_ready") pl)
       callWith p3 f' first (backTo p3 (starEach [] (mkEnv (fnScope (nthS P1 15)) L' f q cd))) []) → EW p (n + 1) .body (mkEnv (fnScope (nthS P1 15)) L' f q cd) (.Call (.Attribute (.Name (Str.ofString "sorter") p1) (Str.ofString "get_ready") p2) [] [] p3) Q' X st1 := fun st1 S1 l1 rds1 ls Q' g1 g2 g3 g4 g5 g6 g7 p1 p2 p3 pl he => by
   refine xE g3.hdx fun ep1 hdx => (GW.frame (a := a) g2 (EW.callM (EW.var g1 ?_) he))
   rw [← g4] at g7 ⊢
   refine MW.own g3.hx hdx hS.clsT hS.mReady rfl (AW.nil ?_)
   refine CC.cw (callReady hS hB.toKB (by decide) g3 g5 ?_ (fun y hy => ?_) fun σ' infos' hR' hg' hn => ?_)
   · cases rds1 with
     | nil => cases (show l1 = [] from g6); exact Nat.zero_le _
     | cons r rest => refine xAAA g6 fun e zw c zw => ?_; rw [e]; lia
   · cases rds1 with
     | nil => cases (show l1 = [] from g6); cases hy
     | cons r rest =>
       refine xAAAA g6 fun e zw zw c zw => ?_
       subst e
       refine xEA ((c y hy).2) fun z hz e => ?_
       refine xEA (List.mem_map.mp hz) fun w hw zz6 => ?_; subst zz6
       exact ⟨w, hw, e⟩
   · refine g7 _ { S1 with infos := infos', ready := some (D, []), po := S1.po + l1.length } ?_ rfl rfl hg' (upd_same ..)
     rw [era_upd hn]; exact hR'
 refine SW.cons (XW.assign ?_)
 refine get _ S l rds [] _ rfl (upd_same ..) ?_ rfl hr hrun (fun σ1 S1 k1 k2 k3 k4 k5 => ?_) _ _ _ _ rfl
 · show SR ad (era (upd σ a _) a) S
   rw [era_upd ha]; exact hR
 refine SW.cons (XW.while (by decide) (fun m st1 => ∃ (S1 : Srt) (l1 : List Str) (g : List Nod) (ds rds0 rds1 : List (List Str)), m = rds1.length ∧ st1.ρ "sorter" = some (.ref S.x) ∧ st1.ρ "groups" = some (.ref a) ∧ st1.ρ "fresh" = some (.tup (l1.map .str)) ∧ st1.σ a = some (.list (ds.map grpA)) ∧ SR ad (era st1.σ a) S1 ∧ S1.x = S.x ∧ S1.ready = some (D, []) ∧ S1.infos.map Info.nod = gOut g l1 ∧ GRun rds1 g l1 ∧ rds = rds0 ++ rds1 ∧ Groups ds rds0) ?_ rds.length ⟨S1, l, S.infos.map Info.nod, [], [], rds, rfl, rfl, rfl, rfl, k5, k1, k2, k3, k4, hrun, rfl, .nil⟩)
 intro m st1 zz7; refine xEEEEEEAAAAAAAAAAA zz7 fun S1 l1 g ds rds0 rds1 zz8 f1 f2 f3 f4 f5 f6 f7 f8 f9 f10 f11 => ?_; subst zz8
 refine TW.cmp (EW.var f3 (EW.tup (LW.nil ⟨?_, by decide⟩)))
 cases rds1 with
 | nil =>
   obtain rfl : l1 = [] := f9
   refine ne_tup0 (l := []) (fun x hx => (List.not_mem_nil hx).elim) (truthy_bool (ite_f (by decide) (SW.nil ?_)))
   refine SW.cons (XW.ret (GW.frz (EW.var f2 ⟨a, _, rfl, f4, ?_⟩)))
   rw [List.append_nil] at f10
   exact h _ ds (f10 ▸ f11)
 | cons r rest =>
   refine xAAAAA f9 fun zz9 c2 c3 c4 c5 c6 => ?_; subst zz9
   refine ne_tup0 (fun x hx => (c4 x hx).1) (truthy_bool (ite_t (by simpa using c2) (SW.cons (XW.append (EW.var f2 ⟨a, rfl, (EW.callB hB.sorted bb_sorted (AW.cons (LW.cons (EW.var f3 (LW.nil (call_sorted (by decide) (source_tup (by lia)) c3 fun ss' hp hs => ?_)))))), _, f4⟩)))))
   refine ⟨_, f4, ?_, ?_⟩
   · have h1 : rds.length = rds0.length + (l1 :: rest).length := by rw [f10]; simp
     have h2 : ds.length = rds0.length := by
       exact f11.len
     simp at h1 ⊢; lia
   refine SW.cons (XW.expr ?_)
   have f4' : (st1.put a (.list (ds.map grpA ++ [.lst (ss'.map .str)]))).σ a = some (.list ((ds ++ [ss']).map grpA)) := by
     show upd st1.σ a _ a = _
     rw [upd_same]; simp [grpA]
   refine GW.frame (a := a) f4' ?_
   have f5' : SR ad ((st1.put a (.list (ds.map grpA ++ [.lst (ss'.map .str)]))).del a).σ S1 := by
     show SR ad (era (upd st1.σ a _) a) S1
     rw [era_over]; exact f5
   refine xE f5'.hdx fun ep1 hdx => (EW.callStarT (x := S.x) (C := ad.cT) (dx := S1.dx) (f := ad.done) hS.clsT hS.mDone (EW.var f1 ⟨rfl, ⟨_, ep1, f6 ▸ f5'.hx, hdx, rfl⟩, ?_⟩))
   refine EW.var f3 ⟨_, rfl, by rw [List.length_map]; lia, ?_⟩
   have f1' : st1.ρ "sorter" = some (.ref S1.x) := by rw [f6]; exact f1
   rw [← f6]
   refine callDoneL hS hB.toKB (by decide) f5' f7 (by lia) (by rw [f8]; exact c5) fun σ2 infos2 hR2 hg2 hn2 => ?_
   rw [f8] at hR2 hg2
   refine SW.cons (XW.assign (get ⟨st1.ρ, upd σ2 a (.list ((ds ++ [ss']).map grpA))⟩ { S1 with infos := infos2, ready := some (D, (doneAll l1 (gOut g l1, [])).2), nf := S1.nf + l1.length } _ rest _ _ f1 (upd_same ..) (by show SR ad (era (upd σ2 a _) a) _; rw [era_upd hn2]; exact hR2) f6 rfl (by rw [hg2]; exact c6) (fun σ3 S3 k1 k2 k3 k4 k5 => ?_) _ _ _ _ rfl))
   refine SW.nil ?_
   refine ⟨_, by exact Nat.lt_succ_self _, S3, _, _, ds ++ [ss'], rds0 ++ [l1], rest, rfl, f1', f2, rfl, k5, k1, k2.trans f6.symm, k3, k4, by rw [hg2]; exact c6, by rw [f10]; simp, .snoc f11 ⟨hp, hs⟩⟩
theorem dat_W {l : List Nat} (h : Asc l) : Dat (wA l) := by
 refine ⟨rfl, ?_, by show (0 : Nat) ≤ 50; decide⟩
 show PyData.strOk (W l) = true
 unfold PyData.strOk
 show (l.toArray).all (fun x => decide (x < 0x110000)) = true
 rw [List.all_toArray, List.all_eq_true]
 intro c hc
 have := h c hc
 simp; lia
theorem asc_one {c : Nat} (h : c < 128) : Asc [c] := fun x hx => by simp at hx; lia
theorem dat_chars {l : List Nat} (h : Asc l) : Dat (.lst (l.map cA)) := by
 have : l.map cA = (l.map fun c => W [c]).map .str := by rw [List.map_map]; rfl
 rw [this]
 refine dat_strs fun x hx => ?_
 refine xEA (List.mem_map.mp hx) fun c hc zz1 => ?_; subst zz1
 exact dat_W (asc_one (h c hc))
theorem eqv_strs2 : ∀ l m : List Str, PyData.eqv (toD (.lst (l.map .str))) (toD (.lst (m.map .str))) = decide (l = m) := by
 have key : ∀ l m : List Str, PyData.eqvAll (toDs (l.map .str)) (toDs (m.map .str)) = decide (l = m) := fun l => by
   induction l with
   | nil => intro m; cases m <;> rfl
   | cons x l ih =>
     intro m
     cases m with
     | nil => rfl
     | cons y m =>
       have := ih m
       simp only [List.map_cons, toDs, toD, PyData.eqvAll, PyData.eqv, this]
       by_cases h : x = y
       · subst h; simp
       · simp [h]
 exact key
theorem eqv_chars (l m : List Nat) : PyData.eqv (toD (.lst (l.map cA))) (toD (.lst (m.map cA))) = decide (l = m) := by
 have h1 : ∀ l : List Nat, l.map cA = (l.map fun c => W [c]).map .str := fun l => by rw [List.map_map]; rfl
 rw [h1, h1, eqv_strs2]
 have : (l.map fun c => W [c]) = (m.map fun c => W [c]) ↔ l = m := by
   constructor
   · intro h
     have inj : ∀ a b : Nat, W [a] = W [b] → a = b := fun a b e => by have := W_inj e; simpa using this
     induction l generalizing m with
     | nil => cases m with | nil => rfl | cons _ _ => exact xnc h
     | cons x l ih =>
       cases m with
       | nil => exact xcn h
       | cons y m =>
         simp only [List.map_cons, List.cons.injEq] at h
         rw [inj _ _ h.1, ih m h.2]
   · intro h; rw [h]
 by_cases h : l = m
 · simp [h]
 · rw [decide_eq_false h, decide_eq_false (fun z => h (this.mp z))]
section
theorem EW.listGenB {fname : Str} {f : Addr} {params : Arguments} {body : List Stmt} {scope : Scope} {dV : Value} {fo : Obj} {fd : FuncData} {bs : List (String × AV)} {items : List Str} {lp np ipos pos : Pos} {l : List Expr}
   (F : FnOK p f params body scope dV fo fd) (hp : p.gp = AllBare) (hb : b ≠ .handler) (eL : nsIn p.K mainGlobals (Str.ofString "list") = some none) (eF : nsIn p.K mainGlobals fname = some (some (.ref f)))
   (hloc : ∀ x ∈ bs, scope.names.lookup (Str.ofString x.1) = some .local) (hcell : ∀ x ∈ scope.names, x.2 ≠ .cell) (hco : scope.isCoroutine = false) (hgen : scope.isGenerator = true) (hk : scope.kind = .function) (hz : items.length ≤ 1000)
   (H : AW p (n + 2) b env (.ref f) ipos l (fun as st1 => BindA p fd as bs ∧ GenGo p n body scope f bs items st1.σ ∧ Q (.lst (items.map .str)) st1) X st)
   (hs : backTo pos (starEach [.Call (.Name fname np) l [] ipos] env) = [(false, eval (.Call (.Name fname np) l [] ipos) env)] := by rfl)
   (hxL : env.kindOf (Str.ofString "list") = some .globalImplicit := by rfl) (hxF : env.kindOf fname = some .globalImplicit := by rfl) (hdF : (fname == ("__debug__" : Str)) = false := by decide +kernel) :
   EW p (n + 2) b env (.Call (.Name (Str.ofString "list") lp) [.Call (.Name fname np) l [] ipos] [] pos) Q X st := by
 refine GW.mk fun A outer h₀ s hid hA S => (wpAny_Call_Name_kw (builtinName hA S eL (v := .type "list") (by decide +kernel) (by decide +kernel) ?_ hxL (by decide +kernel)))
 rw [hs]
 refine PyProof.Rows.callWith_type rfl (evalArgs_plain (spliced_cons (wpAny_Call_Name_kw ?_)))
 have hN : EW p (n + 2) b env (.Name fname np) (fun a st1 => a = .ref f ∧ st1 = st) X st := EW.glob eF (.ref f) ⟨rfl, rfl⟩ hxF hdF
 refine hN.use hA S (.refl _) fun v s1 h1 a st1 k1 zw S1 hv hq => ?_
 refine xA hq fun zz2 zz3 => ?_; subst zz2; subst zz3
 apply VR.onRef hv
 refine callWith_function (o := fo) (fd := fd) (H.use hA S1 k1 fun ar s2 h2 as st2 k2 zw S2 ha H2 => ?_)
 obtain ⟨ap, ak⟩ := ar
 refine xA ha fun ha1 ha2 => ?_
 obtain rfl : ak = [] := ha2
 refine xAA H2 fun hbind hgo hQ => ?_
 have hold : ∀ {h : Heap}, Sub p.base h → h.get? f = some fo := fun {h} k => k _ _ (p.hK _ _ F.look)
 refine ⟨⟨hold (S2.base.trans S2.sub), F.data⟩, (wpAny_call (codeAny_call_generator (fd := fd) (by have := hA.depth; show A.depth < 1000; lia) (hold (S2.base.trans S2.sub)) F.data (by rw [F.scope]; exact hco) (by rw [F.scope]; exact hgen) F.body ((codeRec_of p.hK F.code).keeps (S2.base.trans S2.sub)) (hbind _ _ _ _ _ _ _ _ _ _ S2 ha1 fun h₃ s₃ ws k₃ S₃ hw => (xEA S₃.loc fun m₃ hn₃ hm₃ => ?_))))⟩
 refine wpAny_newFunctionEnv (by rw [F.scope]; exact hcell) (fun x hx => ?_) (fun h' hns hsb => ⟨?_, ?_⟩) (by rw [F.scope]; exact hk)
 · have hx1 := (List.of_mem_zip hx).1
   refine xEA (List.mem_map.mp hx1) fun y hy e => ?_
   rw [F.scope, ← e]
   exact hloc y hy
 · exact (p.hT.nolimit.keeps (S₃.base.trans S₃.sub)).fresh _ hsb
 have kk : Sub s₃.heap h' := fun a o e => hsb.extBut a o (Nat.ne_of_lt (Heap.lt_size e)) (Heap.get?_push_of_some _ e)
 have hse : ∀ e, e ∈ (if b = .comp then outer else env :: outer) → e ∈ outer ∨ (e.scope.kind ≠ .module ∧ e.frame = some env.locals) := fun e he => by
   by_cases hc : b = .comp
   · rw [if_pos hc] at he; exact .inl he
   · rw [if_neg hc] at he
     rcases List.mem_cons.mp he with rfl | he
     · exact .inr ⟨by rw [hA.kind]; decide, hA.frame hc⟩
     · exact .inl he
 have SE := S₃.enter (s' := { s₃ with heap := h', toks := s₃.toks + ((bs.map fun x => Str.ofString x.1).zip ws).length }) (ρ' := fun x => bs.reverse.lookup x) hn₃ rfl hns kk (fun x av e => lookup_zip_rev hw e) rfl rfl hse
 have henv : newEnv fd.scope s₃.heap.objs.size fd.globals fd.closure (fd.qualname ++ ".<locals>.") (some f) fd.code none fd.builtins = mkEnv scope s₃.heap.objs.size f (fd.qualname ++ Str.ofString ".<locals>.") fd.code := by
   unfold newEnv mkEnv
   rw [F.scope, F.glob, F.bi, F.clos]
 rw [henv]
 refine spliced_nil ?_
 have bare : AllBare s₃.gens := by have := S₃.gens; rw [hp] at this; exact this
 have SG := SE.toGens (N := s₃.gens.size + 1) (s' := { s₃ with heap := h', toks := s₃.toks + ((bs.map fun x => Str.ofString x.1).zip ws).length, gens := s₃.gens.push (.fresh (.func body (mkEnv scope s₃.heap.objs.size f (fd.qualname ++ Str.ofString ".<locals>.") fd.code))) }) rfl rfl (bare.push rfl) (by simp)
 refine xA (SG.pushH (s' := { s₃ with gens := s₃.gens.push (.fresh (.func body (mkEnv scope s₃.heap.objs.size f (fd.qualname ++ Str.ofString ".<locals>.") fd.code))), toks := s₃.toks + ((bs.map fun x => Str.ofString x.1).zip ws).length + 1 + 1, heap := h'.push { cls := .type "generator", data := .fields #[.int s₃.gens.size 0, .str fd.name (s₃.toks + ((bs.map fun x => Str.ofString x.1).zip ws).length), .str fd.qualname (s₃.toks + ((bs.map fun x => Str.ofString x.1).zip ws).length + 1)] } })
   (o := { cls := .type "generator", data := .fields #[.int s₃.gens.size 0, .str fd.name (s₃.toks + ((bs.map fun x => Str.ofString x.1).zip ws).length), .str fd.qualname (s₃.toks + ((bs.map fun x => Str.ofString x.1).zip ws).length + 1)] }) rfl rfl rfl rfl) fun f1 SI => ?_
 have hGOK : GOK n A.in1.in1.in1 (if b = .comp then outer else env :: outer) := ⟨hA.frames, hA.handled hb, by show A.depth + 20 * (n + 1) ≤ 900; have := hA.depth; lia, by show A.units + 1 + 1 + 1 + 100 * (n + 1) ≤ 9000; have := hA.units; lia⟩
 refine xA (SI.pushH (s' := { s₃ with gens := s₃.gens.push (.fresh (.func body (mkEnv scope s₃.heap.objs.size f (fd.qualname ++ Str.ofString ".<locals>.") fd.code))), toks := s₃.toks + ((bs.map fun x => Str.ofString x.1).zip ws).length + 1 + 1, heap := (h'.push { cls := .type "generator", data := .fields #[.int s₃.gens.size 0, .str fd.name (s₃.toks + ((bs.map fun x => Str.ofString x.1).zip ws).length), .str fd.qualname (s₃.toks + ((bs.map fun x => Str.ofString x.1).zip ws).length + 1)] }).push { cls := .type "list", data := .seq #[] } })
   (o := { cls := .type "list", data := .seq #[] }) rfl rfl rfl rfl) fun f2 SS => ?_
 refine gw_list (gen_walk (p := p) (N := s₃.gens.size + 1) (L := s₃.heap.objs.size) (outer := if b = .comp then outer else env :: outer) (hB := h₃) (σ := st2.σ) (hidC := upd (upd hid env.locals (.frame m₃)) h'.objs.size (.raw { cls := .type "generator", data := .fields #[.int s₃.gens.size 0, .str fd.name (s₃.toks + ((bs.map fun x => Str.ofString x.1).zip ws).length), .str fd.qualname (s₃.toks + ((bs.map fun x => Str.ofString x.1).zip ws).length + 1)] }))
   (items := items) (g := s₃.gens.size) ?_ (upd_same ..) f2 (hA.handled hb) (by have := hA.depth; show A.depth < 1000; lia) (Nat.lt_succ_self _)) hz ?_ fun s' acc' c' hfi hS hacc => ?_
 · show (h'.push _).objs.size ≠ h'.objs.size
   rw [Heap.size_push]; exact Nat.succ_ne_self _
 · refine ⟨.fresh (.func body (mkEnv scope s₃.heap.objs.size f (fd.qualname ++ Str.ofString ".<locals>.") fd.code)), h₃, _, _, _, ?_, .refl _, f2, .refl _, SS, fun s'' h'' oS' k'' S'' => ⟨rfl, ?_⟩⟩
   · show (s₃.gens.push _)[s₃.gens.size]? = _
     simp
   · rw [Nat.sub_zero]
     exact hgo _ _ _ _ _ _ _ _ _ _ _ _ hGOK f2 k'' S''
 · refine xEEEAA hfi fun oS h4 st4 k4 hσ4 S4 => ?_
   have heS : oS = accObj acc' c' := Option.some.inj ((S4.hidd _ _ (upd_same ..)).1.symm.trans hS)
   refine xA (S4.unhide f2) fun S5 u5 => (xA (S5.unhide f1) fun S6 zw => ?_)
   have S7 := S6.ofGens hp
   have S8 := S₃.leave k4 hm₃ S7
   have hσ : (⟨st2.ρ, st4.σ⟩ : St) = st2 := by rw [hσ4]
   rw [hσ] at S8
   refine xA S8.refreeze fun k9 S9 => ?_
   refine ⟨_, .lst (items.map .str), st2, ((k2.trans k₃).trans k4).trans k9, S9, .lst (vs := acc'.toList) (n := c') ?_ (vrs_strs items _ ?_ fun j v e => hacc.2 j v (by simpa using e)), hQ⟩
   · rw [mask_get]
     have hp' : priv env.locals st2 hid (h'.push { cls := .type "generator", data := .fields #[.int s₃.gens.size 0, .str fd.name (s₃.toks + ((bs.map fun x => Str.ofString x.1).zip ws).length), .str fd.qualname (s₃.toks + ((bs.map fun x => Str.ofString x.1).zip ws).length + 1)] } : Heap).objs.size = false := by
       refine priv_false.mpr ⟨?_, ?_, ?_⟩
       · intro z
         have := hn₃.lt
         have h5 : s₃.heap.objs.size ≤ h'.objs.size := by
           have h6 := hsb.1
           rw [Heap.size_push] at h6
           lia
         have z' : h'.objs.size + 1 = env.locals := by rw [← z]; exact (Heap.size_push ..).symm
         have t' : (env.locals : Nat) < s₃.heap.objs.size := this
         have e' : (h'.objs.size + 1 : Nat) = (env.locals : Nat) := z'
         exact absurd t' (by rw [← e']; exact Nat.not_lt.mpr (Nat.le_succ_of_le h5))
       · cases q : st2.σ _ with
         | none => rfl
         | some o =>
           have := (S4.obj _ o (by rw [hσ4]; exact q)).2.2
           rw [upd_same] at this; exact xsn this
       · have := f2
         rw [upd_ne _ _ (by rw [Heap.size_push]; exact Nat.succ_ne_self _)] at this
         by_cases z : (h'.push { cls := .type "generator", data := .fields #[.int s₃.gens.size 0, .str fd.name (s₃.toks + ((bs.map fun x => Str.ofString x.1).zip ws).length), .str fd.qualname (s₃.toks + ((bs.map fun x => Str.ofString x.1).zip ws).length + 1)] } : Heap).objs.size = env.locals
         · rw [z, upd_same] at this; exact xsn this
         · rw [upd_ne _ _ z] at this; exact this
     rw [hp']
     simpa using hS
   · have := hacc.1
     simpa using this
end
noncomputable def fitsB (one : List Nat) (T : Told) : Bool := T.all fun t => decide (one.filter (fun c => decide (c ∈ t.1)) = t.2)
theorem b_fits (fd : FuncData) (h1 : fd.params = fnArgs (nthS P1 18)) (h2 : fd.defaults = .none) (h3 : fd.kwdefaults = .none) (v u : Value) : bindArgs fd ⟨[v, u], []⟩ = pure [(Str.ofString "one", v), (Str.ofString "told", u)] := b_any h1 h2 h3 fun _ => rfl
theorem call_fits {f : Addr} {one : List Nat} {T : Told} {D : Addr} {ep : Nat} (F0 : FnK p f (nthS P1 18) .none) (hb : b ≠ .handler) (ha : Asc one) (hz : one.length ≤ 1000) (hD : st.σ D = some (.dict (toldE T) ep)) (hn : (keys T).Nodup) (hT : ∀ t ∈ T, Asc t.2)
   (h : Q (.bool (fitsB one T)) st) : CW p (n + 1) b env (.ref f) [wA one, .ref D] Q X st := by
 refine xEE F0.ex fun fo fd K => ?_
 refine callFnCC K (bind2' K b_fits) hb (by intro y hy; simp only [List.mem_cons, List.not_mem_nil, or_false] at hy; rcases hy with rfl | rfl <;> exact .inl rfl) (by decide +kernel) rfl rfl rfl fun L' q cd hcd hfr => ?_
 have hne : D ≠ L' + 1 := fun e => by rw [hfr D (by rw [e]; exact Nat.le_succ _)] at hD; exact xns hD
 have back : ∀ (st1 : St) o, st1.σ = upd st.σ (L' + 1) o → ∀ c : Bool, Q (.bool c) st → ∃ st2 : St, (∀ x v, st2.ρ x = some v → st1.ρ x = some v) ∧ (∀ a o, st2.σ a = some o → st1.σ a = some o) ∧ Q (.bool c) ⟨st.ρ, st2.σ⟩ := fun st1 o e c q => by
   refine ⟨⟨fun zw => none, st.σ⟩, (by intro x v hx; exact xns hx), (fun y z hz => ?_), q⟩
   rw [e, upd_ne]
   · exact hz
   · intro hy
     rw [hy, hfr _ (Nat.le_succ _)] at hz
     exact xns hz
 have hD0 : upd st.σ (L' + 1) (AObj.cell none) D = some (.dict (toldE T) ep) := by rw [upd_ne _ _ hne]; exact hD
 refine SW.cons (XW.for rfl (ItE.of (EW.var rfl ⟨_, _, iter_dict (ep := ep) (es := toldE T) hD0, ?_⟩)))
 rw [show (toldE T).map (fun x => AV.str x.1) = T.map fun t => wA t.1 from by rw [toldE, List.map_map]; rfl]
 refine ForW.go (fun d st1 => (st1.ρ "told" = some (.ref D) ∧ st1.ρ "one" = some (wA one)) ∧ (∃ o, st1.σ = upd st.σ (L' + 1) (.cell o)) ∧ fitsB one d = true) (fun d st1 h1 => ?_) ?_ ?_ ⟨⟨rfl, rfl⟩, ⟨none, rfl⟩, rfl⟩
 · refine xE h1.2.1 fun o e => ?_
   rw [e, upd_ne _ _ hne]; exact hD
 · intro st1 zz4; refine xAA zz4 fun zw zz5 hf => ?_; obtain ⟨o, e⟩ := zz5
   refine SW.nil ?_
   exact SW.cons (XW.ret (GW.loose (EW.bool (back _ _ e true (hf ▸ h)))))
 · intro d t r st1 e zz6; refine xAA zz6 fun zz7 zz8 hf => ?_; obtain ⟨e1, e2⟩ := zz7; obtain ⟨o, e3⟩ := zz8
   have htm : t ∈ T := by rw [e]; simp
   refine AsW.nameC (ca := L' + 1) (o := o) (by rw [e3]; exact upd_same ..) (SW.cons (XW.iff (TW.cmp (EW.lcomp (cl := [(Str.ofString "pair", L' + 1)]) rfl ?_)))) rfl
   refine ItE.of (EW.var e2 ⟨_, _, iter_str ha, fun zw zw => trivial, by simp; lia, one.map fun c => if decide (c ∈ t.1) then some (cA c) else none, fun C => ?_, ?_⟩)
   · refine ElemsW.of one _ _ fun c hc => ?_
     intro st0 h0
     have hv : st0.σ (L' + 1) = some (.cell (some (wA t.1))) := h0 _ _ (upd_same ..)
     refine AsW.name (TW.cmp (EW.var rfl (EW.varC hv (in_strW (truthy_bool ?_)) rfl)))
     cases hP : decide (c ∈ t.1) with
     | true =>
       refine ite_t rfl (tests_nil ?_)
       rw [if_pos rfl, if_pos rfl]
       exact EW.var rfl ⟨rfl, rfl⟩
     | false =>
       simp only [Bool.false_eq_true, if_false]
       exact ⟨trivial, rfl⟩
   · rw [filt_map]
     refine EW.sub (EW.var e1 (EW.varC (ca := L' + 1) (v := wA t.1) (upd_same ..) ?_ rfl))
     have hD1 : (st1.put (L' + 1) (.cell (some (wA t.1)))).σ D = some (.dict (toldE T) ep) := by
       show upd st1.σ _ _ D = _
       rw [upd_ne _ _ hne, e3, upd_ne _ _ hne]; exact hD
     refine idx_dict hD1 (aget_told hn htm) (ne_data (dat_chars fun c hc => ha c (List.mem_filter.mp hc).1) (dat_chars (hT t htm)) ?_)
     rw [eqv_chars]
     refine truthy_bool ?_
     have e4 : (st1.put (L' + 1) (.cell (some (wA t.1)))).σ = upd st.σ (L' + 1) (.cell (some (wA t.1))) := by
       show upd st1.σ _ _ = _
       rw [e3, upd_upd]
     by_cases hq : one.filter (fun c => decide (c ∈ t.1)) = t.2
     · refine ite_f (by simp [hq]) (SW.nil (SW.nil ⟨⟨e1, e2⟩, ⟨_, e4⟩, ?_⟩))
       unfold fitsB at hf ⊢
       rw [List.all_append, hf]
       simp [hq]
     · refine ite_t (by simp [hq]) (SW.cons (XW.ret (GW.loose (EW.bool (back _ _ e4 false ?_)))))
       have : fitsB one T = false := by
         unfold fitsB
         rw [e, List.all_append, List.all_cons, decide_eq_false hq]; simp
       exact this ▸ h
structure AdL where
 restore : Addr
 views : Addr
 delta : Addr
 named : Addr
 sorter : Addr
 smooth : Addr
 groups : Addr
 leading : Addr
 orders : Addr
 fits : Addr
 taken : Addr
 exch : Addr
structure KL (p : PC) (al : AdL) : Prop where
 restore : KF1 p "restore" al.restore (nthS P1 8)
 views : KF1 p "_law_views" al.views (nthS P1 10)
 delta : KF1 p "_law_delta" al.delta (nthS P1 11)
 named : KF1 p "_law_named" al.named (nthS P1 12)
 sorter : KF1 p "_law_sorter" al.sorter (nthS P1 13)
 smooth : KF1 p "_law_smooth" al.smooth (nthS P1 14)
 groups : KF1 p "_law_groups" al.groups (nthS P1 15)
 leading : KF1 p "_law_leading" al.leading (nthS P1 16)
 orders : KF1 p "_law_orders" al.orders (nthS P1 17)
 fits : KF1 p "_law_fits" al.fits (nthS P1 18)
 taken : KF1 p "_law_taken" al.taken (nthS P1 19)
 exch : KF1 p "_law_exchanged" al.exch (nthS P1 20)
theorem b_sorter (fd : FuncData) (h1 : fd.params = fnArgs (nthS P1 13)) (h2 : fd.defaults = .none) (h3 : fd.kwdefaults = .none) (v : Value) : bindArgs fd ⟨[v], []⟩ = pure [(Str.ofString "told", v)] := b_any h1 h2 h3 fun _ => rfl
theorem b_smooth (fd : FuncData) (h1 : fd.params = fnArgs (nthS P1 14)) (h2 : fd.defaults = .none) (h3 : fd.kwdefaults = .none) (v : Value) : bindArgs fd ⟨[v], []⟩ = pure [(Str.ofString "sorter", v)] := b_any h1 h2 h3 fun _ => rfl
theorem call_sorter {al : AdL} {T : Told} {D : Addr} {ep : Nat} (hS : KS2 p ad) (hB : KB p) (hL : KL p al) (hb : b ≠ .handler) (hD : st.σ D = some (.dict (toldE T) ep)) (hn : (keys T).Nodup) (hT : T.length ≤ 10) (hz : ∀ t ∈ T, t.2.length ≤ 5)
   (h : ∀ x σ', Fresh ad (era σ' D) x (sgT T []) 50 → σ' D = some (.dict (toldE T) ep) → Q (.ref x) ⟨st.ρ, σ'⟩) : CW p (n + 5) b env (.ref al.sorter) [.ref D] Q X st := by
 exact xEE hL.sorter.fn.ex fun fo fd F => (callFn F (bind1 F b_sorter) hb (by intro y hy; simp only [List.mem_cons, List.not_mem_nil, or_false] at hy; subst hy; rfl) (by decide +kernel) rfl rfl rfl fun L' q cd => (sorter_body hS hB hL.named hD hn hT hz fun x st' hF hD' => h x _ hF hD'))
theorem call_smooth {al : AdL} {S : Srt} (hS : KS2 p ad) (hC : KC p ad) (hB : KB p) (hL : KL p al) (hb : b ≠ .handler) (hR : SR ad st.σ S) (hr : S.ready = none) (hz : S.infos.length ≤ 400) (hcl : GClosed (S.infos.map Info.nod))
   (h : ∀ σ' D (c : Bool), SR ad σ' { S with ready := some (D, readyOf (S.infos.map Info.nod)) } → (c = false ↔ Cyc (S.infos.map Info.nod)) → Q (.bool c) ⟨st.ρ, σ'⟩) : CW p (n + 3) b env (.ref al.smooth) [.ref S.x] Q X st := by
 refine xEE hL.smooth.fn.ex fun fo fd F => (callFn F (bind1 F b_smooth) hb (by intro y hy; simp only [List.mem_cons, List.not_mem_nil, or_false] at hy; subst hy; rfl) (by decide +kernel) rfl rfl rfl fun L' q cd => (smooth_body hS hC hB hR hr hz (fun z hz y hy => (xEA ((hcl z.nod (List.mem_map_of_mem hz)).2 y hy) fun w hw e => ?_)) fun st' D c hR' hc => h _ D c hR' hc))
 refine xEA (List.mem_map.mp hw) fun w' hw' zz1 => ?_; subst zz1
 exact ⟨w', hw', e⟩
theorem taken_body {L' f : Addr} {q : Str} {cd : Value} {al : AdL} {one : List Nat} {T : Told} {D : Addr} {ep : Nat} {σ : Addr → Option AObj} {Q : AF → St → Prop} (hS : KS2 p ad) (hC : KC p ad) (hB : KB p) (hL : KL p al) (hD : σ D = some (.dict (toldE T) ep)) (hn : (keys T).Nodup)
   (hT : T.length ≤ 10) (hz : ∀ t ∈ T, t.2.length ≤ 5) (ha : Asc one) (h9 : one.length ≤ 9) (hcl : GClosed (sgT T [])) (hok : RunOK ((named one).map W) ⟨sgT T [], readyOf (sgT T []), 0, 0⟩)
   (h : ∀ st', st'.σ D = some (.dict (toldE T) ep) → Q (.ret (.bool (takenRun ((named one).map W) ⟨sgT T [], readyOf (sgT T []), 0, 0⟩))) st') :
   SW p (n + 5) .body (mkEnv (fnScope (nthS P1 19)) L' f q cd) (fnBody (nthS P1 19)) Q X ⟨fun y => [("one", wA one), ("told", AV.ref D)].reverse.lookup y, σ⟩ := by
 refine SW.cons (XW.assign (EW.callK hL.sorter.ns hL.sorter.keep (AW.cons (LW.cons (EW.var rfl (LW.nil (call_sorter hS hB hL (by decide) hD hn hT hz fun x σ1 hF hD1 => ?_)))))))
 obtain ⟨⟨S, hR, hSx, hSr, hSp, hSn, hSg⟩, hFl, hFs⟩ := hF
 have hSz : S.infos.length ≤ 100 := by
   have := congrArg List.length hSg
   rw [List.length_map] at this
   lia
 refine SW.cons (XW.expr (GW.frame (a := D) hD1 (EW.callK hL.smooth.ns hL.smooth.keep (AW.cons (LW.cons (EW.var (show _ = some (AV.ref S.x) from (by rw [hSx]; rfl)) (LW.nil (call_smooth (S := S) (n := n + 2) hS hC hB hL (by decide) hR hSr (by lia) (by rw [hSg]; exact hcl) fun σ2 Dr c hR2 zw hn2 => ?_))))))))
 rw [hSg] at hR2
 refine SW.cons (XW.for rfl (ItE.of (EW.callK hL.named.ns hL.named.keep (AW.cons (LW.cons (EW.var rfl (LW.nil (call_named hL.named.fn hB (by decide) (.inl ⟨rfl, ha⟩) h9 ⟨_, _, iter_list (.inl rfl), ?_⟩))))))))
 rw [show (named one).map wA = ((named one).map W).map AV.str from by rw [List.map_map]; rfl]
 generalize (named one).map W = order at hok h
 refine ForW.go (fun d st' => ∃ rest S' l', order = d ++ rest ∧ st'.ρ "sorter" = some (.ref x) ∧ st'.σ D = some (.dict (toldE T) ep) ∧ SR ad (era st'.σ D) S' ∧ S'.x = x ∧ S'.ready = some (Dr, l') ∧ RunOK rest ⟨S'.infos.map Info.nod, l', S'.po, S'.nf⟩ ∧ takenRun order ⟨sgT T [], readyOf (sgT T []), 0, 0⟩ = takenRun rest ⟨S'.infos.map Info.nod, l', S'.po, S'.nf⟩)
   (fun zw zw zw => .inl rfl) ?_ ?_ ⟨order, { S with ready := some (Dr, readyOf (sgT T [])) }, readyOf (sgT T []), rfl, rfl, upd_same .., by show SR ad (era (upd σ2 D _) D) _; rw [era_upd hn2]; exact hR2, hSx, rfl, ?_, ?_⟩
 · intro st' zz2; refine xEEEAAAAAAA zz2 fun rest S' l' hr' h1 hD' hR' hx hrd hrun hval => ?_
   have : rest = [] := by simpa using hr'
   subst this
   refine SW.nil (SW.cons (XW.ret (EW.bool ?_)))
   have := h st' hD'
   rw [hval] at this
   exact this
 · intro d t r st' e zz3; refine xEEEAAAAAAA zz3 fun rest S' l' hr' h1 hD' hR' hx hrd hrun hval => ?_
   have : rest = t :: r := by rw [e] at hr'; exact (List.append_cancel_left hr').symm
   subst this
   refine xE hR'.hdx fun ep1 hdx => (xAAAAAA hrun fun c1 c2 c3 c4 c5 c6 c7 => ?_)
   dsimp only at c1 c2 c3 c4 c6 c7
   subst hx
   refine AsW.name (SW.cons (XW.expr (GW.frame (a := D) hD' (EW.callM (EW.var h1 (MW.own hR'.hx hdx hS.clsT hS.mReady rfl (AW.nil ?_)))))))
   refine CC.cw (callReady hS hB (by decide) hR' hrd (by lia) (fun y hy => ?_) fun σ3 infos1 hR1 hg1 hn3 => ?_)
   · refine xEA (c2 y hy) fun z hz e => ?_
     refine xEA (List.mem_map.mp hz) fun w hw zz4 => ?_; subst zz4
     exact ⟨w, hw, e⟩
   have hnm := gOut_names l' (S'.infos.map Info.nod)
   rw [← hg1] at hnm
   have mem1 : ∀ z ∈ S'.infos.map Info.nod, ∃ w ∈ infos1, w.name = z.name ∧ w.ss = z.ss := fun z hz => by
     refine xEAA (same_names hnm hz) fun w hw e1 e2 => ?_
     refine xEA (List.mem_map.mp hw) fun w' hw' zz5 => ?_; subst zz5
     exact ⟨w', hw', e1, e2⟩
   refine xEA c3 fun z hz hzn => (xEAA (mem1 z hz) fun i hi hin his => ?_)
   have hnpi : npOf (gOut (S'.infos.map Info.nod) l') t = i.np := by
     rw [← hg1, ← hzn, ← hin]
     exact npOf_eq (z := i.nod) (by rw [List.map_map]; exact hR1.names) (List.mem_map_of_mem hi)
   have hit : i.name = t := hin.trans hzn
   subst hit
   refine SW.cons ?_
   refine XW.tryB (T := "ValueError") ?t1 ?t2 ?t3 ?t4 ?t5 ?t6 ?t7 ?t8 ?t9
   case t1 => decide
   case t2 => exact hB.value
   case t3 => exact bb_value
   case t4 => exact isExc_value
   case t5 => exact notTuple_value
   case t7 => rfl
   case t8 => decide +kernel
   case t9 => decide +kernel
   refine SW.cons (XW.expr (GW.frame (a := D) (o := .dict (toldE T) ep) (upd_same ..) ?_))
   have hR1' : SR ad (era (upd σ3 D (.dict (toldE T) ep)) D) { S' with infos := infos1, ready := some (Dr, []), po := S'.po + l'.length } := by rw [era_upd hn3]; exact hR1
   refine xE hR1'.hdx fun ep2 hdx1 => (EW.callM (EW.var (show _ = some (AV.ref S'.x) from h1) (MW.own hR1'.hx hdx1 hS.clsT hS.mDone rfl (AW.cons (LW.cons (EW.var rfl (LW.nil ?_)))))))
   refine CC.cw (callDone (S := { S' with infos := infos1, ready := some (Dr, []), po := S'.po + l'.length }) (i := i) hS hB (by decide) hR1' rfl hi (by rw [his]; have := (c4 z hz).1; simp; lia) (fun y hy => ?_) c5 (fun hm σ4 infos2 hR2 hg2 hn4 => ?_) (fun hp σ4 => ⟨"ValueError", rfl, sub_value, ?_⟩) ?_)
   · rw [his] at hy
     exact xEA ((c4 z hz).2 y hy) fun w hw e => (xEAA (mem1 w hw) fun w' hw' e1 zw => ⟨w', hw', e1.trans e⟩)
   · refine SW.nil (SW.nil ?_)
     have hm1 : npOf (gOut (S'.infos.map Info.nod) l') i.name = -1 := hnpi.trans hm
     have hts : (⟨infos2.map Info.nod, (gDone (infos1.map Info.nod) [] i.name).2, S'.po + l'.length, S'.nf + 1⟩ : TS) = TS.next ⟨S'.infos.map Info.nod, l', S'.po, S'.nf⟩ i.name := by
       unfold TS.next
       rw [← hg1, hg2]
     refine ⟨r, { S' with infos := infos2, ready := some (Dr, (gDone (infos1.map Info.nod) [] i.name).2), po := S'.po + l'.length, nf := S'.nf + 1 }, (gDone (infos1.map Info.nod) [] i.name).2, by rw [e]; simp, h1, upd_same .., by show SR ad (era (upd σ4 D _) D) _; rw [era_upd hn4]; exact hR2, rfl, rfl, ?_, ?_⟩
     · show RunOK r ⟨infos2.map Info.nod, _, S'.po + l'.length, S'.nf + 1⟩
       rw [hts]; exact c7 hm1
     · show _ = takenRun r ⟨infos2.map Info.nod, _, S'.po + l'.length, S'.nf + 1⟩
       rw [hts, hval, takenRun, if_pos hm1]
   · refine SW.cons (XW.ret (EW.bool ?_))
     have hm1 : ¬ npOf (gOut (S'.infos.map Info.nod) l') i.name = -1 := by rw [hnpi]; lia
     rw [hval, takenRun, if_neg hm1] at h
     exact h _ (upd_same ..)
   · rw [← hnpi]; exact c6
 · show RunOK order ⟨S.infos.map Info.nod, _, S.po, S.nf⟩
   rw [hSg, hSp, hSn]; exact hok
 · show _ = takenRun order ⟨S.infos.map Info.nod, _, S.po, S.nf⟩
   rw [hSg, hSp, hSn]
theorem call_lenS {l : List Nat} (h : Q (.int l.length) st) (hz : l.length ≤ 16777216) : CW p n b env (.builtin "len") [wA l] Q X st :=
 GF.mk fun zw zw zw zw zw zw zw S hv => by
   refine xEA hv.one fun v zz1 hv1 => ?_; subst zz1
   apply VR.onStr hv1; intro zt
   refine P.len_str (by rw [W_len]; lia) (NP.mk (S.of_eq rfl rfl rfl) (.refl _) ?_ h)
   rw [W_len]; exact .int ..
theorem rangeA_eq : ∀ (k i : Nat), rangeA (i : Nat) k = (List.range' i k).map fun j => AV.int (j : Nat)
 | 0, _ => rfl
 | k + 1, i => by
   have := rangeA_eq k (i + 1)
   show AV.int i :: rangeA ((i : Int) + 1) k = _
   rw [show ((i : Int) + 1) = ((i + 1 : Nat) : Int) from rfl, this]
   rfl
theorem rangeA_eq0 (k : Nat) : rangeA 0 k = (List.range k).map fun j => AV.int (j : Nat) := by
 rw [List.range_eq_range']; exact rangeA_eq k 0
noncomputable def ofS (s : Str) : List Nat := s.cps.toList
theorem W_ofS (s : Str) : W (ofS s) = s := by cases s; simp [W, ofS]
theorem Elems2.of {E : AV → List AV → Prop} {α : Type} : ∀ (l : List α) (v : α → AV) (r : α → List AV), (∀ a ∈ l, E (v a) (r a)) → Elems2 E (l.map v) (l.map r)
 | [], _, _, _ => .nil
 | a :: l, v, r, h => .cons (h a (.head _)) (Elems2.of l v r fun x hx => h x (.tail _ hx))
noncomputable def insAt (c : Nat) (w : List Nat) (k : Nat) : List Nat := w.take k ++ [c] ++ w.drop k
structure OrdersOf (os : List (List Nat)) (w : List Nat) : Prop where
 mem : ∀ x, x ∈ os ↔ x.Perm w
 nodup : os.Nodup
 sorted : sortedS (os.map W) = true
theorem ins_iff {os : List (List Nat)} {d : List Nat} {c : Nat} (h : ∀ x, x ∈ os ↔ x.Perm d) (y : List Nat) : (∃ x ∈ os, ∃ k, k < x.length + 1 ∧ y = insAt c x k) ↔ y.Perm (d ++ [c]) := by
 constructor
 · intro zz2; refine xEAEA zz2 fun x hx k zw zz3 => ?_; subst zz3
   have h1 := (h x).mp hx
   have h2 : (insAt c x k).Perm (x ++ [c]) := by
     unfold insAt
     rw [List.append_assoc]
     refine (List.Perm.append_left (x.take k) List.perm_append_comm).trans ?_
     rw [← List.append_assoc, List.take_append_drop]
   exact h2.trans (h1.append_right [c])
 · intro hp
   have hc : c ∈ y := hp.mem_iff.mpr (by simp)
   refine xEE (List.append_of_mem hc) fun a z zz4 => ?_; subst zz4
   refine ⟨a ++ z, (h _).mpr ?_, a.length, by simp; lia, by simp [insAt]⟩
   have h1 : (c :: (a ++ z)).Perm (c :: d) := List.perm_middle.symm.trans (hp.trans List.perm_append_comm)
   exact h1.cons_inv
theorem b_orders (fd : FuncData) (h1 : fd.params = fnArgs (nthS P1 17)) (h2 : fd.defaults = .none) (h3 : fd.kwdefaults = .none) (v : Value) : bindArgs fd ⟨[v], []⟩ = pure [(Str.ofString "word", v)] := b_any h1 h2 h3 fun _ => rfl
theorem call_orders {f : Addr} {w : List Nat} (F0 : FnK p f (nthS P1 17) .none) (hB : KB2 p) (hb : b ≠ .handler) (ha : Asc w) (hz : w.length ≤ 5) (hcnt : ∀ (d r : List Nat), w = d ++ r → ∀ l : List (List Nat), l.Nodup → (∀ x ∈ l, x.Perm d) → l.length < 64)
   (h : ∀ os, OrdersOf os w → Q (.lst (os.map wA)) st) : CW p (n + 1) b env (.ref f) [wA w] Q X st := by
 refine xEE F0.ex fun fo fd K => (callFnCC K (bind1 K b_orders) hb (by intro y hy; simp only [List.mem_cons, List.not_mem_nil, or_false] at hy; subst hy; exact .inl rfl) (by decide +kernel) rfl rfl rfl fun L' q cd hcd hfr => ?_)
 have hnone : st.σ (L' + 1) = none := hfr _ (Nat.le_succ _)
 refine SW.cons (XW.assign (EW.list (LW.cons (EW.str (LW.nil ⟨?_, by decide⟩)))))
 refine SW.cons (XW.for rfl (ItE.of (EW.var rfl ⟨_, _, iter_str ha, ?_⟩)))
 refine ForW.go (fun d st1 => ∃ os, st1.ρ "orders" = some (.lst (os.map wA)) ∧ OrdersOf os d ∧ (∃ o, st1.σ (L' + 1) = some (.cell o)) ∧ ∀ a o, st.σ a = some o → st1.σ a = some o) (fun zw zw zw => trivial) ?_ ?_ ⟨[[]], rfl, ⟨fun x => by simp [List.perm_nil], by decide, rfl⟩, ⟨none, upd_same ..⟩, fun y o e => ?_⟩
 · intro st1 zz5; refine xEAAA zz5 fun os e1 hO zw hle => ?_
   refine SW.nil ?_
   refine SW.cons (XW.ret (GW.loose ?_))
   refine EW.var e1 ⟨⟨fun zw => none, st.σ⟩, (by intro x v hx; exact xns hx), hle, h os hO⟩
 · intro d c r st1 e zz6; refine xEAAA zz6 fun os e1 hO zz7 hle => ?_; obtain ⟨o, ho⟩ := zz7
   have hdl : w.length = d.length + 1 + r.length := by rw [e]; simp; lia
   have hlen : ∀ x ∈ os, x.length ≤ 5 := fun x hx => by rw [((hO.mem x).mp hx).length_eq]; lia
   have hosl : os.length < 64 := hcnt d (c :: r) e os hO.nodup fun x hx => (hO.mem x).mp hx
   refine AsW.nameC (ca := L' + 1) (o := o) ho (SW.cons (XW.assign (EW.callB hB.sorted bb_sorted (AW.cons (LW.cons ?_))))) rfl
   have hfl : (os.map fun x => (List.range (x.length + 1)).map fun k => wA (insAt c x k)).flatten.length ≤ 3000 := by
     have : ∀ l : List (List Nat), (∀ x ∈ l, x.length ≤ 5) → (l.map fun x => (List.range (x.length + 1)).map fun k => wA (insAt c x k)).flatten.length ≤ 6 * l.length := fun l => by
       induction l with
       | nil => intro _; exact Nat.zero_le _
       | cons x l ih =>
         intro hl
         have h1 := ih fun y hy => hl y (.tail _ hy)
         have h2 := hl x (.head _)
         simp only [List.map_cons, List.flatten_cons, List.length_append, List.length_map, List.length_range, List.length_cons]
         lia
     have := this os hlen
     lia
   refine EW.scomp2 (cl := [(Str.ofString "c", L' + 1)]) rfl ?_
   refine ItE.of (EW.var e1 ⟨_, _, iter_list (.inl rfl), fun zw zw => .inl rfl, os.map fun x => (List.range (x.length + 1)).map fun k => wA (insAt c x k), hfl, fun a ha' => ?_, fun C => ?_, fun D o' hD hX => ?_⟩)
   · refine xEA (List.mem_flatten.mp ha') fun l hl hal => ?_
     refine xEA (List.mem_map.mp hl) fun x zw zz8 => ?_; subst zz8
     refine xEA (List.mem_map.mp hal) fun k zw zz9 => ?_; subst zz9
     exact ⟨_, rfl⟩
   · refine Elems2.of os _ _ fun x hx => ?_
     have hx5 := hlen x hx
     intro st2 h2
     refine AsW.name (ItE.range hB.range (EW.binop (EW.callB hB.len bb_len (AW.cons (LW.cons (EW.var rfl (LW.nil (call_lenS (EW.int (add_int ?_)) (by lia)))))))))
     refine ⟨x.length + 1, rfl, by lia, rfl, fun zw zw => trivial, fun ρ => ρ "one" = some (wA x), (List.range (x.length + 1)).map fun k => some (wA (insAt c x k)), rfl, ?_, ?_, ?_⟩
     · rw [rangeA_eq0]
       refine ElemsW.of _ _ _ fun k hk => ?_
       have hk' : k ≤ x.length := Nat.le_of_lt_succ (List.mem_range.mp hk)
       intro st3 hR h3
       have hv : st3.σ (L' + 1) = some (.cell (some (cA c))) := h3 _ _ (upd_same ..)
       exact AsW.name (tests_nil (ite_t rfl (EW.binop (EW.binop (EW.cut (EW.var hR (OW.no (OW.yes (EW.var rfl (cutW_upto hk' (EW.varC hv (addW (EW.cut (EW.var hR (OW.yes (EW.var rfl (OW.no (cutW_from hk' (addW ⟨rfl, rfl, hR⟩ (by simp; lia)) (by lia))))))) (by simp; lia)) rfl) (by lia)))))))))))
     · rw [some_map]
     · rw [rangeA_eq0]; simp
   · refine xEEAAA hX fun o2 l zz10 hS hll hm => ?_; subst zz10
     have hlm : ∀ s : Str, s ∈ l ↔ ∃ x ∈ os, ∃ k, k < x.length + 1 ∧ s = W (insAt c x k) := fun s => by
       rw [hm, List.mem_flatten]
       constructor
       · intro zz11; refine xEA zz11 fun l1 h1 h2 => ?_
         refine xEA (List.mem_map.mp h1) fun x hx zz12 => ?_; subst zz12
         exact xEA (List.mem_map.mp h2) fun k hk e => ⟨x, hx, k, List.mem_range.mp hk, (AV.str.inj e).symm⟩
       · intro zz13; refine xEAEA zz13 fun x hx k hk zz14 => ?_; subst zz14
         exact ⟨_, List.mem_map.mpr ⟨x, hx, rfl⟩, List.mem_map.mpr ⟨k, List.mem_range.mpr hk, rfl⟩⟩
     have hnd : l.Nodup := by refine xEEEAAA hS fun zw zw zw zw zw zw h => ?_; exact h
     have inj : ∀ s t : Str, ofS s = ofS t → s = t := fun s t e => by rw [← W_ofS s, ← W_ofS t, e]
     have ndm : ∀ l : List Str, l.Nodup → (l.map ofS).Nodup := fun l hl => by
       rw [List.nodup_iff_pairwise_ne, List.pairwise_map]
       exact (List.nodup_iff_pairwise_ne.mp hl).imp fun hne e => hne (inj _ _ e)
     have hmem : ∀ y : List Nat, y ∈ l.map ofS ↔ y.Perm (d ++ [c]) := fun y => by
       rw [← ins_iff hO.mem y, List.mem_map]
       constructor
       · intro zz15; refine xEA zz15 fun s hs zz16 => ?_; subst zz16
         refine xEAEA ((hlm s).mp hs) fun x hx k hk zz17 => ?_; subst zz17
         exact ⟨x, hx, k, hk, rfl⟩
       · intro zz18; refine xEAEA zz18 fun x hx k hk zz19 => ?_; subst zz19
         exact ⟨_, (hlm _).mpr ⟨x, hx, k, hk, rfl⟩, rfl⟩
     have hl64 : l.length < 64 := by
       have := hcnt (d ++ [c]) r (by rw [e]; simp) (l.map ofS) (ndm l hnd) fun x hx => (hmem x).mp hx
       simpa using this
     refine LW.nil (call_sorted (by decide) (source_set (upd_same ..) hS (by lia)) hl64 fun ss' hp hs => (SW.nil ?_))
     refine ⟨ss'.map ofS, ?_, ⟨fun y => ?_, ndm _ (hp.nodup_iff.mpr hnd), ?_⟩, ⟨some (cA c), ?_⟩, fun a o e2 => ?_⟩
     · show some (AV.lst (ss'.map .str)) = _
       rw [List.map_map]
       congr 2
     · rw [← hmem y]
       exact (hp.map ofS).mem_iff
     · rw [List.map_map]
       have : ss'.map (W ∘ ofS) = ss' := by
         conv => rhs; rw [← List.map_id ss']
         exact List.map_congr_left fun s zw => W_ofS s
       rw [this]; exact hs
     · show upd (upd st1.σ (L' + 1) _) D _ (L' + 1) = _
       rw [upd_ne, upd_same]
       intro z
       rw [← z] at hD
       have : upd st1.σ (L' + 1) (AObj.cell (some (cA c))) (L' + 1) = none := hD
       rw [upd_same] at this; exact xsn this
     · have h1 : a ≠ L' + 1 := fun z => by rw [z, hnone] at e2; exact xns e2
       have h2 : a ≠ D := fun z => by
         have : upd st1.σ (L' + 1) (AObj.cell (some (cA c))) D = none := hD
         rw [← z, upd_ne _ _ h1, hle a o e2] at this; exact xsn this
       show upd (upd st1.σ (L' + 1) _) D _ a = _
       rw [upd_ne _ _ h2, upd_ne _ _ h1]; exact hle a o e2
 · show upd st.σ _ _ y = _
   rw [upd_ne]
   · exact e
   · intro z; rw [z, hnone] at e; exact xns e
noncomputable def pairL (a c : Nat) : List Nat := if c < a then [c, a] else [a, c]
noncomputable def swapAt (w : List Nat) (k a c : Nat) : List Nat := w.take k ++ [c] ++ [a] ++ w.drop (k + 2)
inductive Reach (ks : List (List Nat)) (one : List Nat) : List Nat → Prop
 | refl : Reach ks one one
 | step {w : List Nat} {k a c : Nat} : Reach ks one w → w[k]? = some a → w[k + 1]? = some c → pairL a c ∉ ks → Reach ks one (swapAt w k a c)
structure ExchOf (ks : List (List Nat)) (one : List Nat) (os : List (List Nat)) : Prop where
 mem : ∀ x, x ∈ os ↔ Reach ks one x
 nodup : os.Nodup
 sorted : sortedS (os.map W) = true
theorem sorted_two {a c : Nat} {ss : List Str} (hp : ss.Perm [W [a], W [c]]) (hs : sortedS ss = true) : ss = (pairL a c).map fun x => W [x] := by
 have hl := hp.length_eq
 refine xEE ((by
   cases ss with
   | nil => cases hl
   | cons x ss =>
     cases ss with
     | nil => cases hl
     | cons y ss =>
       cases ss with
       | nil => exact ⟨x, y, rfl⟩
       | cons _ _ => simp at hl) : ∃ x y, ss = [x, y]) fun x y zz1 => ?_; subst zz1
 have h2 : (x = W [a] ∧ y = W [c]) ∨ (x = W [c] ∧ y = W [a]) := by
   have hx : x ∈ [W [a], W [c]] := hp.mem_iff.mp (by simp)
   simp only [List.mem_cons, List.not_mem_nil, or_false] at hx
   rcases hx with rfl | rfl
   · have := hp.cons_inv
     exact .inl ⟨rfl, by simpa using this⟩
   · have := (hp.trans (.swap _ _ _)).cons_inv
     exact .inr ⟨rfl, by simpa using this⟩
 have lt : ∀ u v : Nat, sortedS [W [u], W [v]] = true → ¬ v < u := fun u v h hvu => by
   have h1 : sortedS [W [u], W [v]] = (!Spec.ltCps [v] [u] && true) := rfl
   rw [h1] at h
   have h3 : Spec.ltCps [v] [u] = true := by simp [Spec.ltCps, hvu]
   rw [h3] at h; exact xft h
 unfold pairL
 rcases h2 with ⟨rfl, rfl⟩ | ⟨rfl, rfl⟩
 · rw [if_neg (lt _ _ hs)]; rfl
 · have := lt _ _ hs
   by_cases h : c < a
   · rw [if_pos h]; rfl
   · have : a = c := by lia
     subst this; simp
theorem aget_key {T : Told} {l : List Nat} : (aget (toldE T) (W l)).isSome = decide (l ∈ keys T) := by
 unfold aget toldE keys
 induction T with
 | nil => rfl
 | cons t T ih =>
   simp only [List.map_cons, List.find?_cons, List.mem_cons]
   by_cases h : W t.1 = W l
   · have := W_inj h
     rw [decide_eq_true h]; simp [this]
   · have h2 : ¬ l = t.1 := fun e => h (by rw [e])
     rw [decide_eq_false h, ih]; simp [h2]
theorem swap_perm {w : List Nat} {k a c : Nat} (ha : w[k]? = some a) (hc : w[k + 1]? = some c) : (swapAt w k a c).Perm w := by
 have e : w = w.take k ++ [a] ++ [c] ++ w.drop (k + 2) := by
   refine xE (List.getElem?_eq_some_iff.mp ha) fun h1 e1 => (xE (List.getElem?_eq_some_iff.mp hc) fun h2 e2 => ?_)
   have d1 : w.drop k = a :: w.drop (k + 1) := by rw [List.drop_eq_getElem_cons h1, e1]
   have d2 : w.drop (k + 1) = c :: w.drop (k + 2) := by rw [List.drop_eq_getElem_cons h2, e2]
   conv => lhs; rw [← List.take_append_drop k w, d1, d2]
   simp
 conv => rhs; rw [e]
 unfold swapAt
 refine List.Perm.append_right _ ?_
 rw [List.append_assoc, List.append_assoc]
 exact List.Perm.append_left _ (.swap _ _ _)
theorem Reach.perm {ks : List (List Nat)} {one w : List Nat} (h : Reach ks one w) : w.Perm one := by
 induction h with
 | refl => exact .refl _
 | step _ ha hc _ ih => exact (swap_perm ha hc).trans ih
noncomputable def ClosedAt (ks fs : List (List Nat)) (w : List Nat) (k : Nat) : Prop := ∀ a c, w[k]? = some a → w[k + 1]? = some c → pairL a c ∉ ks → swapAt w k a c ∈ fs
theorem ClosedAt.mono {ks fs fs' : List (List Nat)} {w : List Nat} {k : Nat} (h : ClosedAt ks fs w k) (hs : ∀ x ∈ fs, x ∈ fs') : ClosedAt ks fs' w k := fun a c h1 h2 h3 => hs _ (h a c h1 h2 h3)
theorem b_exch (fd : FuncData) (h1 : fd.params = fnArgs (nthS P1 20)) (h2 : fd.defaults = .none) (h3 : fd.kwdefaults = .none) (v u : Value) : bindArgs fd ⟨[v, u], []⟩ = pure [(Str.ofString "one", v), (Str.ofString "told", u)] := b_any h1 h2 h3 fun _ => rfl
structure Exch (T : Told) (ep : Nat) (one : List Nat) (D D1 D2 : Addr) (σ0 : Addr → Option AObj) (st1 : St) (fs : List (List Nat)) (i : Nat) : Prop where
 rt : st1.ρ "told" = some (.ref D)
 rf : st1.ρ "found" = some (.ref D1)
 rk : st1.ρ "known" = some (.ref D2)
 rp : st1.ρ "place" = some (.int i)
 od : st1.σ D = some (.dict (toldE T) ep)
 of : st1.σ D1 = some (.list (fs.map wA))
 ok : ∃ Tb, st1.σ D2 = some (.set Tb fs.length) ∧ ∀ x, Tb (W x) = decide (x ∈ fs)
 le : ∀ a o, σ0 a = some o → st1.σ a = some o
 n1 : σ0 D1 = none
 n2 : σ0 D2 = none
 ne : D1 ≠ D2
 reach : ∀ x ∈ fs, Reach (keys T) one x
 nodup : fs.Nodup
 start : one ∈ fs
 done : ∀ j x, j < i → fs[j]? = some x → ∀ k, ClosedAt (keys T) fs x k
theorem Exch.same {T : Told} {ep : Nat} {one : List Nat} {D D1 D2 : Addr} {σ0 : Addr → Option AObj} {st1 st2 : St} {fs : List (List Nat)} {i : Nat} (h : Exch T ep one D D1 D2 σ0 st1 fs i) (hσ : st2.σ = st1.σ)
   (h1 : st2.ρ "told" = st1.ρ "told") (h2 : st2.ρ "found" = st1.ρ "found") (h3 : st2.ρ "known" = st1.ρ "known") (h4 : st2.ρ "place" = st1.ρ "place") : Exch T ep one D D1 D2 σ0 st2 fs i :=
 ⟨h1.trans h.rt, h2.trans h.rf, h3.trans h.rk, h4.trans h.rp, by rw [hσ]; exact h.od, by rw [hσ]; exact h.of, by rw [hσ]; exact h.ok, by rw [hσ]; exact h.le, h.n1, h.n2, h.ne, h.reach, h.nodup, h.start, h.done⟩
theorem range_at {m : Nat} {d r : List Nat} {a : Nat} (h : List.range m = d ++ a :: r) : a = d.length ∧ a < m := by
 have h1 : (List.range m)[d.length]? = some a := by rw [h]; simp
 rw [List.getElem?_eq_some_iff] at h1
 refine xE h1 fun h2 h3 => ?_
 simp at h2 h3
 exact ⟨h3.symm, by lia⟩
theorem call_exch {f : Addr} {one : List Nat} {T : Told} {D : Addr} {ep : Nat} (F0 : FnK p f (nthS P1 20) .none) (hB : KB2 p) (hb : b ≠ .handler) (hz : one.length ≤ 5) (h1z : 1 ≤ one.length) (hcnt : ∀ l : List (List Nat), l.Nodup → (∀ x ∈ l, x.Perm one) → l.length < 64)
   (hD : st.σ D = some (.dict (toldE T) ep)) (h : ∀ os, ExchOf (keys T) one os → Q (.lst (os.map wA)) st) : CW p (n + 1) b env (.ref f) [wA one, .ref D] Q X st := by
 refine xEE F0.ex fun fo fd K => ?_
 refine callFnCC K (bind2' K b_exch) hb (by intro y hy; simp only [List.mem_cons, List.not_mem_nil, or_false] at hy; rcases hy with rfl | rfl <;> exact .inl rfl) (by decide +kernel) rfl rfl rfl fun L' q cd hcd hfr => ?_
 refine SW.cons (XW.assign (EW.listM (LW.cons (EW.var rfl (LW.nil ⟨fun D1 hD1 => ?_, by simp⟩)))))
 replace hD1 : st.σ D1 = none := hD1
 refine SW.cons (XW.assign (EW.set1 (y := W one) hcd rfl fun D2 Tb hTb hD2 => ?_))
 replace hD2 : upd st.σ D1 (.list [wA one]) D2 = none := hD2
 have hne : D1 ≠ D2 := fun z => by rw [← z, upd_same] at hD2; exact xsn hD2
 rw [upd_ne _ _ hne.symm] at hD2
 refine SW.cons (XW.assign (EW.int (SW.cons ?_)))
 have hDD1 : D ≠ D1 := fun z => by rw [z, hD1] at hD; exact xns hD
 have hDD2 : D ≠ D2 := fun z => by rw [z, hD2] at hD; exact xns hD
 refine XW.while (by decide) (fun m st1 => ∃ fs i, m = 64 - i ∧ i ≤ fs.length ∧ Exch T ep one D D1 D2 st.σ st1 fs i) ?_ 64 ⟨[one], 0, rfl, by simp, rfl, rfl, rfl, rfl, ?_, ?_, ⟨Tb, upd_same .., fun x => ?_⟩, fun y o e => ?_, hD1, hD2, hne, ?_, ?_, ?_, ?_⟩
 · intro m st1 zz1; refine xEEAA zz1 fun fs i zz2 hi hE => ?_; subst zz2
   have h64 : fs.length < 64 := hcnt fs hE.nodup fun x hx => (hE.reach x hx).perm
   refine TW.cmp (EW.var hE.rp (EW.callB hB.len bb_len (AW.cons (LW.cons (EW.var hE.rf (LW.nil (call_len (.inr ⟨D1, rfl, hE.of⟩) (lt_int (truthy_bool ?_)) (by simp; lia))))))))
   by_cases hlt : i < fs.length
   · refine ite_t (by simpa using hlt) (xE ((⟨_, List.getElem?_eq_getElem hlt⟩) : ∃ w, fs[i]? = some w) fun w hw => ?_)
     have hwf : w ∈ fs := List.mem_of_getElem? hw
     have hwl : w.length = one.length := ((hE.reach w hwf).perm).length_eq
     refine SW.cons (XW.assign (EW.sub (EW.var hE.rf (EW.var hE.rp (idx_list (x := wA w) (.inr ⟨D1, rfl, hE.of⟩) (by lia) (by simp [hw]) (SW.cons (XW.for rfl (ItE.range hB.range (EW.binop (EW.callB hB.len bb_len (AW.cons (LW.cons (EW.var rfl (LW.nil (call_lenS (EW.int (sub_int ?_)) (by lia))))))))))))))))
     refine ⟨w.length - 1, by congr 1; lia, by lia, ?_⟩
     rw [rangeA_eq0]
     refine ForW.go (fun d st2 => ∃ fs', st2.ρ "word" = some (wA w) ∧ Exch T ep one D D1 D2 st.σ st2 fs' i ∧ fs'[i]? = some w ∧ ∀ k, k < d.length → ClosedAt (keys T) fs' w k) (fun zw zw zw => trivial) ?_ ?_ ⟨fs, rfl, hE.same rfl rfl rfl rfl rfl, hw, fun k hk => by cases hk⟩
     · intro st2 zz3; refine xEAAA zz3 fun fs' g1 hE' g2 g3 => ?_
       refine SW.nil (SW.cons (XW.aug hE'.rp (EW.int (iadd_int (SW.nil ?_)))))
       have hi' : i < fs'.length := (List.getElem?_eq_some_iff.mp g2).1
       refine ⟨64 - (i + 1), by lia, fs', i + 1, rfl, hi', hE'.rt, hE'.rf, hE'.rk, rfl, hE'.od, hE'.of, hE'.ok, hE'.le, hE'.n1, hE'.n2, hE'.ne, hE'.reach, hE'.nodup, hE'.start, fun j x hj hx k => ?_⟩
       by_cases hji : j = i
       · subst hji
         have : x = w := by rw [g2] at hx; exact (Option.some.inj hx).symm
         subst this
         by_cases hk : k < x.length - 1
         · exact g3 k (by rw [List.length_range]; exact hk)
         · intro a c _ hc _
           have := (List.getElem?_eq_some_iff.mp hc).1
           lia
       · exact hE'.done j x (by lia) hx k
     · intro d k r st2 e zz4; refine xEAAA zz4 fun fs' g1 hE' g2 g3 => ?_
       refine xA (range_at e) fun hk hkl => ?_
       have hi' : i < fs'.length := (List.getElem?_eq_some_iff.mp g2).1
       have hf64 : fs'.length < 64 := hcnt fs' hE'.nodup fun x hx => (hE'.reach x hx).perm
       refine xE ((⟨_, List.getElem?_eq_getElem (by lia)⟩) : ∃ a, w[k]? = some a) fun a ha => (xE ((⟨_, List.getElem?_eq_getElem (by lia)⟩) : ∃ c, w[k + 1]? = some c) fun c hc => ?_)
       have hcl : ∀ fs'' : List (List Nat), (∀ x ∈ fs', x ∈ fs'') → ClosedAt (keys T) fs'' w k → ∀ k', k' < (d ++ [k]).length → ClosedAt (keys T) fs'' w k' := fun fs'' hs h2 k' hk' => by
         by_cases hkk : k' = k
         · subst hkk; exact h2
         · exact (g3 k' (by simp at hk'; lia)).mono hs
       refine AsW.name (SW.cons (XW.assign (EW.binop (EW.binop (EW.binop (EW.cut (EW.var g1 (OW.no (OW.yes (EW.var rfl (cutW_upto (by lia) (EW.sub (EW.var g1 (EW.binop (EW.var rfl (EW.int (add_int (idx_str (i := ((k + 1 : Nat) : Int)) (c := c) (by lia) hc (addW (EW.sub (EW.var g1 (EW.var rfl (idx_str (c := a) (by lia) ha (addW (EW.cut (EW.var g1 (OW.yes (EW.binop (EW.var rfl (EW.int (add_int (OW.no (cutW_from (i := k + 2) (by lia) (addW ?_ (by simp; lia)) (by lia)))))))))) (by simp; lia)))))) (by simp; lia))))))))) (by lia))))))))))))
       rw [show w.take k ++ [c] ++ [a] ++ w.drop (k + 2) = swapAt w k a c from rfl]
       refine SW.cons (XW.iff (TW.and (TW.cmp (EW.callM (EW.str (MW.builtin recv_str F.plainAttrs_str F.slot_str_join F.type_str_join (AW.cons (LW.cons (EW.callB hB.sorted bb_sorted (AW.cons (LW.cons (EW.cut (EW.var g1 (OW.yes (EW.var rfl (OW.yes (EW.binop (EW.var rfl (EW.int (add_int (cutW_mid (i := k) (j := k + 2) (by lia) (by lia) ?_ (by lia))))))))))))))))))))))
       have hmid : (w.drop k).take (k + 2 - k) = [a, c] := by
         refine xE (List.getElem?_eq_some_iff.mp ha) fun h1 e1 => (xE (List.getElem?_eq_some_iff.mp hc) fun h2 e2 => ?_)
         have d1 : w.drop k = a :: w.drop (k + 1) := by rw [List.drop_eq_getElem_cons h1, e1]
         have d2 : w.drop (k + 1) = c :: w.drop (k + 2) := by rw [List.drop_eq_getElem_cons h2, e2]
         rw [d1, d2, show k + 2 - k = 2 from by lia]; rfl
       rw [hmid]
       refine LW.nil (call_sorted (by decide) (source_str (by simp)) (by simp) fun ss' hp hs => ?_)
       have hss := sorted_two hp hs
       subst hss
       refine LW.nil ?_
       refine call_join (l := (pairL a c).map fun x => [x]) (.inl (by rw [List.map_map, List.map_map]; rfl)) ?_ (by unfold pairL; split <;> simp)
       rw [show ((pairL a c).map fun x => [x]).flatten = pairL a c from by unfold pairL; split <;> rfl]
       refine EW.var hE'.rt (notin_dict hE'.od ?_)
       rw [aget_key]
       refine truthy_bool ?_
       by_cases hin : pairL a c ∈ keys T
       · refine ite_f (by simp [hin]) (ite_f (by decide) (SW.nil (SW.nil ?_)))
         exact ⟨fs', g1, hE'.same rfl rfl rfl rfl rfl, g2, hcl fs' (fun zw hx => hx) fun a' c' h1 h2 h3 => by
           rw [ha] at h1; rw [hc] at h2; cases Option.some.inj h1; cases Option.some.inj h2; exact (h3 hin).elim⟩
       · refine ite_t (by simp [hin]) (TW.and (TW.cmp (EW.var rfl (EW.var hE'.rk (xEA hE'.ok fun Tb ok1 ok2 => (notin_set ok1 ?_))))))
         rw [ok2]
         refine truthy_bool ?_
         by_cases hnew : swapAt w k a c ∈ fs'
         · refine ite_f (by simp [hnew]) (ite_f (by decide) (SW.nil (SW.nil ?_)))
           exact ⟨fs', g1, hE'.same rfl rfl rfl rfl rfl, g2, hcl fs' (fun zw hx => hx) fun a' c' h1 h2 h3 => by
             rw [ha] at h1; rw [hc] at h2; cases Option.some.inj h1; cases Option.some.inj h2; exact hnew⟩
         · refine ite_t (by simp [hnew]) (TW.and_nil (ite_t rfl (SW.cons (XW.append (EW.var hE'.rf ⟨D1, rfl, (EW.var rfl ?_), _, hE'.of⟩)))))
           refine ⟨_, hE'.of, by simp; lia, ?_⟩
           refine SW.cons (XW.expr (EW.callM (EW.var hE'.rk ?_)))
           have ok1' : upd st2.σ D1 (.list (fs'.map wA ++ [wA (swapAt w k a c)])) D2 = some (.set Tb fs'.length) := by rw [upd_ne _ _ hne.symm]; exact ok1
           refine MW.builtin (recv_set ok1') F.plainAttrs_set F.slot_set_add F.type_set_add (AW.cons (LW.cons (EW.var rfl (LW.nil (call_sadd ok1' ?_ (by lia))))))
           rw [ok2, decide_eq_false hnew]
           refine SW.nil (SW.nil ?_)
           refine ⟨fs' ++ [swapAt w k a c], g1, ⟨hE'.rt, hE'.rf, hE'.rk, hE'.rp, ?_, ?_, ⟨fun x => Tb x || decide (x = W (swapAt w k a c)), ?_, fun x => ?_⟩, fun y o e2 => ?_, hD1, hD2, hne, fun x hx => ?_, ?_, List.mem_append_left _ hE'.start, fun j x hj hx k' => ?_⟩, ?_, hcl _ (fun x hx => List.mem_append_left _ hx) fun a' c' h1 h2 h3 => ?_⟩
           · show upd (upd st2.σ D1 _) D2 _ D = _
             rw [upd_ne _ _ hDD2, upd_ne _ _ hDD1]; exact hE'.od
           · show upd (upd st2.σ D1 _) D2 _ D1 = _
             rw [upd_ne _ _ hne, upd_same]; simp
           · show upd (upd st2.σ D1 _) D2 _ D2 = _
             rw [upd_same]
             simp only [Bool.false_eq_true, if_false, List.length_append, List.length_singleton]
           · show (Tb (W x) || decide (W x = W (swapAt w k a c))) = _
             rw [ok2]
             by_cases hx : x = swapAt w k a c
             · subst hx; simp
             · have : W x ≠ W (swapAt w k a c) := fun z => hx (W_inj z)
               rw [decide_eq_false this]; simp [hx]
           · show upd (upd st2.σ D1 _) D2 _ y = _
             rw [upd_ne _ _ (fun z => by rw [z, hD2] at e2; exact xns e2), upd_ne _ _ (fun z => by rw [z, hD1] at e2; exact xns e2)]
             exact hE'.le y o e2
           · rcases List.mem_append.mp hx with hx | hx
             · exact hE'.reach x hx
             · rw [List.mem_singleton.mp hx]
               exact (hE'.reach w (List.mem_of_getElem? g2)).step ha hc hin
           · rw [List.nodup_append]
             exact ⟨hE'.nodup, by simp, fun x hx y hy z => hnew (by rw [← List.mem_singleton.mp hy, ← z]; exact hx)⟩
           · rw [List.getElem?_append_left (by lia)] at hx
             exact (hE'.done j x hj hx k').mono fun y hy => List.mem_append_left _ hy
           · rw [List.getElem?_append_left hi']; exact g2
           · rw [ha] at h1; rw [hc] at h2; cases Option.some.inj h1; cases Option.some.inj h2
             simp
   · refine ite_f (by simpa using hlt) (SW.nil (SW.cons (XW.ret (GW.loose (EW.callB hB.sorted bb_sorted (AW.cons (LW.cons (EW.var hE.rf (LW.nil ?_)))))))))
     have hfm : fs.map wA = (fs.map W).map .str := by rw [List.map_map]; rfl
     refine call_sorted (by decide) (source_list (ss := fs.map W) (.inr ⟨D1, rfl, by rw [← hfm]; exact hE.of⟩) (by simp; lia)) (by simp; lia) fun ss' hp hs => ⟨⟨fun zw => none, st.σ⟩, (by intro x v hx; exact xns hx), hE.le, ?_⟩
     have hW : ss'.map (W ∘ ofS) = ss' := by
       conv => rhs; rw [← List.map_id ss']
       exact List.map_congr_left fun s zw => W_ofS s
     have hof : (fs.map W).map ofS = fs := by
       rw [List.map_map]
       conv => rhs; rw [← List.map_id fs]
       exact List.map_congr_left fun s zw => rfl
     have hpo : (ss'.map ofS).Perm fs := by have := hp.map ofS; rwa [hof] at this
     have := h (ss'.map ofS) ⟨fun x => ?_, hpo.nodup_iff.mpr hE.nodup, by rw [List.map_map, hW]; exact hs⟩
     · rw [List.map_map, show (wA ∘ ofS) = (AV.str ∘ (W ∘ ofS)) from rfl, ← List.map_map, hW] at this
       exact this
     · rw [hpo.mem_iff]
       refine ⟨hE.reach x, fun hr => ?_⟩
       induction hr with
       | refl => exact hE.start
       | @step w k a c _ ha hc hn ih =>
         refine xE (List.getElem?_of_mem ih) fun j hj => ?_
         have := (List.getElem?_eq_some_iff.mp hj).1
         exact hE.done j w (by lia) hj k a c ha hc hn
 · show upd (upd st.σ D1 _) D2 _ D = _
   rw [upd_ne _ _ hDD2, upd_ne _ _ hDD1]; exact hD
 · show upd (upd st.σ D1 _) D2 _ D1 = _
   rw [upd_ne _ _ hne, upd_same]; rfl
 · rw [hTb]
   by_cases hx : x = one
   · subst hx; simp
   · have : W x ≠ W one := fun z => hx (W_inj z)
     rw [decide_eq_false this]; simp [hx]
 · show upd (upd st.σ D1 _) D2 _ y = _
   rw [upd_ne _ _ (fun z => by rw [z, hD2] at e; exact xns e), upd_ne _ _ (fun z => by rw [z, hD1] at e; exact xns e)]
   exact e
 · intro x hx
   rw [List.mem_singleton.mp hx]; exact .refl
 · simp
 · simp
 · intro j x hj; cases hj
theorem W_abcd : Str.ofString "abcd" = W [97, 98, 99, 100] := by decide +kernel
noncomputable def abcd : List Nat := [97, 98, 99, 100]
theorem abcd_asc : Asc abcd := by unfold Asc abcd; decide
noncomputable def badFor (c : Nat) (t : List Nat × List Nat) : Bool := decide (c ∈ t.1) && !decide (t.2.take 1 = [c])
noncomputable def ldB (T : Told) (c : Nat) : Bool := (T.filter (badFor c)).isEmpty
noncomputable def leadL (T : Told) : List Nat := abcd.filter (ldB T)
noncomputable def asgE : Stmt → Expr
 | .Assign _ e _ => e
 | _ => .Constant .none 0 ⟨0, 0, 0, 0⟩
noncomputable def dumStmt : Stmt := .Pass ⟨0, 0, 0, 0⟩
noncomputable def ldW : List Stmt := whBody ((fnBody (nthS P1 16)).getD 3 dumStmt)
noncomputable def ldEnv (L' f : Addr) (q : Str) (cd : Value) : Env := mkEnvC (fnScope (nthS P1 16)) L' f q cd
theorem lead_comp {L' f : Addr} {q : Str} {cd : Value} {T : Told} {D : Addr} {ep : Nat} (hc : st.σ (L' + 1) = some (.cell (some (.ref D)))) (hD : st.σ D = some (.dict (toldE T) ep)) (hn : (keys T).Nodup) (hT : ∀ t ∈ T, Asc t.1 ∧ Asc t.2 ∧ t.2.length ≤ 1000) (hT2 : T.length ≤ 1000)
   (h : Q (.lst ((leadL T).map cA)) st) : EW p n .body (ldEnv L' f q cd) (asgE (ldW.getD 0 dumStmt)) Q X st := by
 refine GW.frz (EW.compG (gs := []) (cl := [(Str.ofString "left", L' + 1)]) (body := fun D cenv => emitL _ (.ref D) cenv)
   (inner := fun C E Q st => EW p n .comp (compEnvX _ [(Str.ofString "left", L' + 1)] C (ldEnv L' f q cd)) _ (fun a st1 => ∃ l, st1.σ E = some (.list l) ∧ l.length ≤ 16777216 ∧ Q (st1.put E (.list (l ++ [a])))) No st)
   rfl rfl rfl (by decide +kernel) newA_list (fun zw zw => compAt_L) (by decide) (fun C E Q st h => emitL_w h) ?_ rfl (by intro _; rfl))
 refine ItE.of (EW.str ?_)
 rw [W_abcd]
 refine ⟨_, _, iter_str abcd_asc, fun C E hE hEC hC => ?_⟩
 have main : ∀ (l done : List Nat) (st2 : St) (Qf : St → Prop), (∀ st3 : St, (∀ a, a ≠ E → a ≠ C + 1 → st3.σ a = st.σ a) → st3.σ E = some (.list ((done ++ l.filter (ldB T)).map cA)) → Qf st3) → (∀ a, a ≠ E → a ≠ C + 1 → st2.σ a = st.σ a) → (∃ o, st2.σ (C + 1) = some (.cell o)) → st2.σ E = some (.list (done.map cA)) → (∀ c ∈ l, c < 128) → done.length + l.length ≤ 1000 →
     CompW p n (compEnvX (lcS (asgE (ldW.getD 0 dumStmt))) [(Str.ofString "left", L' + 1)] C (ldEnv L' f q cd))
       (lcT (asgE (ldW.getD 0 dumStmt))) (lcI (asgE (ldW.getD 0 dumStmt)))
       (fun Q st => EW p n .comp (compEnvX (lcS (asgE (ldW.getD 0 dumStmt))) [(Str.ofString "left", L' + 1)] C (ldEnv L' f q cd)) (lcE (asgE (ldW.getD 0 dumStmt))) (fun a st1 => ∃ l, st1.σ E = some (.list l) ∧ l.length ≤ 16777216 ∧ Q (st1.put E (.list (l ++ [a])))) No st)
       (fun zw => True) (l.map cA) Qf st2 := by
   intro l
   induction l with
   | nil => exact fun done st2 Qf hQ h1 zw h3 zw zw => ⟨trivial, hQ _ h1 (by simpa using h3)⟩
   | cons c l ih =>
     intro done st2 Qf hQ h1 ⟨o, h2⟩ h3 h4 h5
     have hC1 : st.σ (C + 1) = none := hC _ (Nat.le_succ _)
     have hcE : C + 1 ≠ E := fun z => by rw [← z] at hEC; exact absurd hEC (by lia)
     have hc128 : c < 128 := h4 c (.head _)
     refine ⟨trivial, (AsW.nameC (ca := C + 1) (o := o) h2 ?_ rfl)⟩
     have hL : ∀ a o', st.σ a = some o' → upd st2.σ (C + 1) (.cell (some (cA c))) a = some o' := fun a o' e => by
       rw [upd_ne _ _ (fun z => by rw [z, hC1] at e; exact xns e), h1 a (fun z => by rw [z, hE] at e; exact xns e) fun z => by rw [z, hC1] at e; exact xns e]
       exact e
     have hE' : upd st2.σ (C + 1) (.cell (some (cA c))) E = some (.list (done.map cA)) := by rw [upd_ne _ _ hcE.symm]; exact h3
     have hO : ∀ a, a ≠ E → a ≠ C + 1 → upd st2.σ (C + 1) (.cell (some (cA c))) a = st.σ a := fun a z1 z2 => by rw [upd_ne _ _ z2]; exact h1 a z1 z2
     refine TW.cmp (EW.lcomp (cl := [(Str.ofString "left", L' + 1), (Str.ofString "c", C + 1)]) rfl (ItE.of (EW.varC (ca := L' + 1) (v := .ref D) (hL _ _ hc) ?_ rfl)))
     refine ⟨_, _, iter_dict (es := toldE T) (ep := ep) (hL _ _ hD), fun σ' hs => hs _ _ (hL _ _ hD), by simp [toldE]; lia, T.map fun t => if badFor c t then some (wA t.1) else none, fun C2 => ?_, ?_⟩
     · rw [show (toldE T).map (fun x => AV.str x.1) = T.map fun t => wA t.1 from by rw [toldE, List.map_map]; rfl]
       refine ElemsW.of T _ _ fun t ht => (xAA (hT t ht) fun ht1 ht2 ht3 => ?_)
       intro st3 hs3
       have q1 : st3.σ (C + 1) = some (.cell (some (cA c))) := hs3 _ _ (upd_same ..)
       have q2 : st3.σ (L' + 1) = some (.cell (some (.ref D))) := hs3 _ _ (hL _ _ hc)
       have q3 : st3.σ D = some (.dict (toldE T) ep) := hs3 _ _ (hL _ _ hD)
       refine AsW.name (TW.and (TW.cmp (EW.varC q1 (EW.var rfl (in_strW (truthy_bool ?_))) rfl)))
       cases hb1 : decide (c ∈ t.1) with
       | false =>
         have hbf : badFor c t = false := by simp [badFor, hb1]
         rw [hbf]
         simp only [Bool.false_eq_true, if_false]
         exact ⟨trivial, rfl⟩
       | true =>
         refine ite_t rfl (TW.and (TW.cmp (EW.cut (EW.sub (EW.varC q2 (EW.var rfl (idx_dict q3 (aget_told hn ht) (OW.no (OW.yes (EW.int (cut_upto (.inl rfl) (EW.list (LW.cons (EW.varC q1 (LW.nil ⟨?_, by simp⟩) rfl))) (by simp; lia))))))) rfl)))))
         rw [show ((t.2.map cA).take (1 : Int).toNat) = (t.2.take 1).map cA from by rw [List.map_take]; rfl]
         refine ne_data (dat_chars fun x hx => ht2 x (List.mem_of_mem_take hx)) (c := .lst ([c].map cA)) (dat_chars (asc_one hc128)) ?_
         rw [eqv_chars]
         refine truthy_bool ?_
         cases hb2 : decide (t.2.take 1 = [c]) with
         | true =>
           have hbf : badFor c t = false := by simp [badFor, hb2]
           rw [hbf]
           simp only [Bool.not_true, Bool.false_eq_true, if_false]
           exact ⟨trivial, rfl⟩
         | false =>
           have hbf : badFor c t = true := by simp [badFor, hb1, hb2]
           refine ite_t (by decide) (TW.and_nil (ite_t rfl (tests_nil ?_)))
           rw [if_pos rfl, if_pos hbf]
           exact EW.var rfl ⟨rfl, rfl⟩
     · rw [filt_map]
       refine EW.list (LW.nil ⟨?_, by decide⟩)
       have hdt : Dat (.lst ((T.filter (badFor c)).map fun t => wA t.1)) := by
         rw [show ((T.filter (badFor c)).map fun t => wA t.1) = ((T.filter (badFor c)).map fun t => W t.1).map .str from by rw [List.map_map]; rfl]
         refine dat_strs fun x hx => ?_
         refine xEA (List.mem_map.mp hx) fun t ht zz1 => ?_; subst zz1
         exact dat_W (hT t (List.mem_filter.mp ht).1).1
       refine eq_data hdt (c := .lst []) ⟨rfl, rfl, by show (0 + 1 : Nat) ≤ 50; decide⟩ ?_
       rw [eqv_nil, List.isEmpty_map]
       refine truthy_bool ?_
       cases hb3 : ldB T c with
       | false =>
         refine ite_f (by rw [show (T.filter (badFor c)).isEmpty = ldB T c from rfl, hb3]; decide) ?_
         show CompW _ _ _ _ _ _ _ _ _ _
         rw [List.filter_cons_of_neg (by simp [hb3])] at hQ
         have := ih done (st2.put (C + 1) (.cell (some (cA c)))) Qf hQ hO ⟨_, upd_same ..⟩ hE' (fun x hx => h4 x (.tail _ hx)) (by simp at h5 ⊢; lia)
         exact this
       | true =>
         refine ite_t (by rw [show (T.filter (badFor c)).isEmpty = ldB T c from rfl, hb3]) (tests_nil (ite_t rfl (EW.varC (ca := C + 1) (v := cA c) (upd_same ..) ?_ rfl)))
         refine ⟨_, hE', by simp at h5 ⊢; lia, ?_⟩
         rw [List.filter_cons_of_pos hb3, show (done ++ c :: l.filter (ldB T)) = done ++ [c] ++ l.filter (ldB T) from by simp] at hQ
         have := ih (done ++ [c]) ((st2.put (C + 1) (.cell (some (cA c)))).put E (.list (done.map cA ++ [cA c]))) Qf hQ (fun a z1 z2 => by
           show upd (upd st2.σ (C + 1) _) E _ a = _
           rw [upd_ne _ _ z1]; exact hO a z1 z2) ⟨some (cA c), by
           show upd (upd st2.σ (C + 1) _) E _ (C + 1) = _
           rw [upd_ne _ _ hcE, upd_same]⟩ (by
           show upd (upd st2.σ (C + 1) _) E _ E = _
           rw [upd_same]; simp) (fun x hx => h4 x (.tail _ hx)) (by simp at h5 ⊢; lia)
         exact this
 refine main [97, 98, 99, 100] [] ⟨fun zw => none, upd (upd st.σ E (.list [])) (C + 1) (.cell none)⟩ _ (fun st3 g1 g2 => ⟨fun a o e => ?_, _, g2, _, _, rfl, upd_same .., ?_⟩) (fun a z1 z2 => by
   show upd (upd st.σ E _) (C + 1) _ a = _
   rw [upd_ne _ _ z2, upd_ne _ _ z1]) ⟨none, upd_same ..⟩ (by
   show upd (upd st.σ E _) (C + 1) _ E = _
   rw [upd_ne _ _ (fun z => by rw [z] at hEC; exact absurd hEC (by lia)), upd_same]; rfl) (by decide) (by decide)
 · rw [g1 a (fun z => by rw [z, hE] at e; exact xns e) fun z => by rw [z, hC _ (Nat.le_succ _)] at e; exact xns e]
   exact e
 · rw [put_del _ hE]
   exact h
noncomputable def stepRow (lead row : List Nat) : List Nat := match row with
 | a :: r => if decide (a ∈ lead) then r else a :: r
 | [] => []
noncomputable def stepT (T : Told) (lead : List Nat) : Told := T.map fun t => (t.1, stepRow lead t.2)
noncomputable def grpOf (gone lead : List Nat) : List (List Nat) := lead.map fun c => [c, 48 + gone.count c]
inductive LRun : Told → List Nat → List (List (List Nat)) → Prop
 | stop {T : Told} {gone : List Nat} : leadL T = [] → LRun T gone []
 | step {T : Told} {gone : List Nat} {gs : List (List (List Nat))} : leadL T ≠ [] → LRun (stepT T (leadL T)) (gone ++ leadL T) gs → LRun T gone (grpOf gone (leadL T) :: gs)
noncomputable def gA (g : List (List Nat)) : AV := .lst (g.map wA)
noncomputable def total (T : Told) : Nat := (T.map fun t => t.2.length).sum
theorem keys_step (T : Told) (l : List Nat) : keys (stepT T l) = keys T := by simp [keys, stepT]
theorem aset_fresh {es : List (Str × AV)} {k : Str} {v : AV} (h : ∀ x ∈ es, x.1 ≠ k) : aset es k v = es ++ [(k, v)] := by
 unfold aset
 rw [if_neg]
 simp only [List.any_eq_true, decide_eq_true_eq, not_exists, not_and]
 exact h
theorem asetAll_fresh : ∀ (rs es : List (Str × AV)), (es ++ rs).map (·.1) |>.Nodup → asetAll es rs = es ++ rs
 | [], es, _ => (List.append_nil es).symm
 | x :: rs, es, h => by
   have h1 : ∀ y ∈ es, y.1 ≠ x.1 := fun y hy e => by
     rw [List.map_append, List.nodup_append] at h
     exact h.2.2 y.1 (List.mem_map.mpr ⟨y, hy, rfl⟩) x.1 (by simp) e
   have := asetAll_fresh rs (es ++ [(x.1, x.2)]) (by simpa using h)
   show asetAll (aset es x.1 x.2) rs = _
   rw [aset_fresh h1, this]; simp
theorem toldE_nodup {T : Told} (hn : (keys T).Nodup) : ((toldE T).map (·.1)).Nodup := by
 rw [show (toldE T).map (·.1) = (keys T).map W from by simp [toldE, keys]]
 rw [List.nodup_iff_pairwise_ne, List.pairwise_map]
 exact (List.nodup_iff_pairwise_ne.mp hn).imp fun hne e => hne (W_inj e)
theorem b_leading (fd : FuncData) (h1 : fd.params = fnArgs (nthS P1 16)) (h2 : fd.defaults = .none) (h3 : fd.kwdefaults = .none) (v : Value) : bindArgs fd ⟨[v], []⟩ = pure [(Str.ofString "told", v)] := b_any h1 h2 h3 fun _ => rfl
structure Lead (T0 : Told) (L' a : Addr) (σ0 : Addr → Option AObj) (st1 : St) (T : Told) (gone : List Nat) (acc : List (List (List Nat))) (D : Addr) (ep : Nat) : Prop where
 rg : st1.ρ "groups" = some (.ref a)
 cl : st1.σ (L' + 1) = some (.cell (some (.ref D)))
 od : st1.σ D = some (.dict (toldE T) ep)
 cg : st1.σ (L' + 2) = some (.cell (some (.lst (gone.map cA))))
 ce : ∃ o, st1.σ (L' + 3) = some (.cell o)
 og : st1.σ a = some (.list (acc.map gA))
 le : ∀ a o, σ0 a = some o → st1.σ a = some o
 fr : ∀ x, L' ≤ x → σ0 x = none
 na : σ0 a = none
 nodup : (keys T).Nodup
 ok : ∀ t ∈ T, Asc t.1 ∧ Asc t.2 ∧ t.2.length ≤ 1000
 len : T.length ≤ 1000
 each : ∀ c ∈ abcd, ∃ t ∈ T, c ∈ t.1 ∧ gone.count c + t.2.length ≤ 9
 gl : gone.length + 4 * total T ≤ 10000
 al : acc.length + total T ≤ 10000
 ga : Asc gone
 run : ∀ gs, LRun T gone gs → LRun T0 [] (acc ++ gs)
theorem stepRow_len (lead row : List Nat) : (stepRow lead row).length ≤ row.length := by
 cases row with
 | nil => exact Nat.le_refl _
 | cons x r =>
   show (if decide (x ∈ lead) then r else x :: r).length ≤ _
   split <;> simp
theorem total_step : ∀ (T : Told) (lead : List Nat), total (stepT T lead) ≤ total T ∧ ((∃ t ∈ T, ∃ c r, t.2 = c :: r ∧ c ∈ lead) → total (stepT T lead) < total T)
 | [], lead => ⟨Nat.le_refl _, by intro zz1; refine xEA zz1 fun t ht _ => ?_; cases ht⟩
 | u :: T, lead => by
   refine xA (total_step T lead) fun h1 h2 => ?_
   have h3 := stepRow_len lead u.2
   have e1 : total (stepT (u :: T) lead) = (stepRow lead u.2).length + total (stepT T lead) := by simp [total, stepT]
   have e2 : total (u :: T) = u.2.length + total T := by simp [total]
   refine ⟨by lia, ?_⟩
   intro zz2; refine xEAEEA zz2 fun t ht c r e hc => ?_
   cases ht with
   | head _ =>
     have : (stepRow lead u.2).length < u.2.length := by rw [e]; show (if decide (c ∈ lead) then r else c :: r).length < _; rw [if_pos (by simpa using hc)]; simp
     lia
   | tail _ ht => have := h2 ⟨t, ht, c, r, e, hc⟩; lia
theorem lead_row {T : Told} {c : Nat} (h : c ∈ leadL T) {t : List Nat × List Nat} (ht : t ∈ T) (hc : c ∈ t.1) : ∃ r, t.2 = c :: r := by
 have h1 : ldB T c = true := (List.mem_filter.mp h).2
 have h2 : T.filter (badFor c) = [] := by simpa [ldB] using h1
 have h3 := List.filter_eq_nil_iff.mp h2 t ht
 have h4 : t.2.take 1 = [c] := by simpa [badFor, hc] using h3
 cases e : t.2 with
 | nil => rw [e] at h4; exact xnc h4
 | cons x r => rw [e] at h4; simp at h4; exact ⟨r, by rw [h4]⟩
theorem leadL_asc (T : Told) : Asc (leadL T) := fun c hc => abcd_asc c (List.mem_filter.mp hc).1
theorem leadL_count (T : Told) (c : Nat) : (leadL T).count c ≤ 1 := by
 have : (leadL T).Nodup := List.Sublist.nodup List.filter_sublist (by decide)
 exact List.nodup_iff_count.mp this c
theorem leadL_len (T : Told) : (leadL T).length ≤ 4 := Nat.le_trans (List.length_filter_le _ _) (by decide)
theorem in_chars (c : Nat) (l : List Nat) : ((toDs (l.map cA)).any fun y => PyData.eqv y (toD (cA c))) = decide (c ∈ l) := by
 induction l with
 | nil => rfl
 | cons x l ih =>
   simp only [List.map_cons, toDs, List.any_cons, ih, List.mem_cons]
   have : PyData.eqv (toD (cA x)) (toD (cA c)) = decide (x = c) := by
     show (W [x] == W [c]) = _
     by_cases h : x = c
     · subst h; simp
     · have : W [x] ≠ W [c] := fun e => h (by have := W_inj e; simpa using this)
       simp [h, this]
   rw [this]
   by_cases h : x = c
   · subst h; simp
   · simp [h, Ne.symm h]
theorem ElemsD.of {E : AV → Str × AV → Prop} {α : Type} : ∀ (l : List α) (v : α → AV) (r : α → Str × AV), (∀ a ∈ l, E (v a) (r a)) → ElemsD E (l.map v) (l.map r)
 | [], _, _, _ => .nil
 | a :: l, v, r, h => .cons (h a (.head _)) (ElemsD.of l v r fun x hx => h x (.tail _ hx))
theorem Lead.same {T0 : Told} {L' a : Addr} {σ0 : Addr → Option AObj} {st1 st2 : St} {T : Told} {gone : List Nat} {acc : List (List (List Nat))} {D : Addr} {ep : Nat} (h : Lead T0 L' a σ0 st1 T gone acc D ep) (hρ : st2.ρ "groups" = st1.ρ "groups") {o : Option AV} (hσ : st2.σ = upd st1.σ (L' + 3) (.cell o)) : Lead T0 L' a σ0 st2 T gone acc D ep := by
 have hne : ∀ y o', st1.σ y = some o' → (∀ z, o' ≠ .cell z) → y ≠ L' + 3 := fun y o' e hz e2 => by
   refine xE h.ce fun z hz' => ?_
   rw [e2, hz'] at e; cases Option.some.inj e; exact hz _ rfl
 have c1 : L' + 1 ≠ L' + 3 := by lia
 have c2 : L' + 2 ≠ L' + 3 := by lia
 exact ⟨hρ.trans h.rg, by rw [hσ, upd_ne _ _ c1]; exact h.cl, by rw [hσ, upd_ne _ _ (hne _ _ h.od (by intro z e; exact xao e rfl))]; exact h.od, by rw [hσ, upd_ne _ _ c2]; exact h.cg, ⟨o, by rw [hσ]; exact upd_same ..⟩,
   by rw [hσ, upd_ne _ _ (hne _ _ h.og (by intro z e; exact xao e rfl))]; exact h.og, fun y o' e => by rw [hσ, upd_ne _ _ (fun z => by rw [z, h.fr _ (by lia)] at e; exact xns e)]; exact h.le y o' e, h.fr, h.na, h.nodup, h.ok, h.len, h.each, h.gl, h.al, h.ga, h.run⟩
theorem call_leading {f : Addr} {T : Told} {D : Addr} {ep : Nat} (F0 : FnK p f (nthS P1 16) .none) (hB : KB2 p) (hb : b ≠ .handler) (hD : st.σ D = some (.dict (toldE T) ep)) (hn : (keys T).Nodup) (hok : ∀ t ∈ T, Asc t.1 ∧ Asc t.2 ∧ t.2.length ≤ 9) (hlen : T.length ≤ 10) (heach : ∀ c ∈ abcd, ∃ t ∈ T, c ∈ t.1)
   (h : ∀ gs, LRun T [] gs → Q (.lst (gs.map gA)) st) : CW p (n + 1) b env (.ref f) [.ref D] Q X st := by
 refine xEE F0.ex fun fo fd K => (callFnCC K (bind1 K b_leading) hb (by intro y hy; simp only [List.mem_cons, List.not_mem_nil, or_false] at hy; subst hy; exact .inl rfl) (by decide +kernel) rfl rfl rfl fun L' q cd hcd hfr => ?_)
 have n1 : st.σ (L' + 1) = none := hfr _ (by lia)
 have n2 : st.σ (L' + 2) = none := hfr _ (by lia)
 have n3 : st.σ (L' + 3) = none := hfr _ (by lia)
 have ne12 : L' + 1 ≠ L' + 2 := by lia
 have ne13 : L' + 1 ≠ L' + 3 := by lia
 have ne23 : L' + 2 ≠ L' + 3 := by lia
 have hs0 : ∃ σ1 : Addr → Option AObj, σ1 = cellσ [("told", AV.ref D)] (PySem.cellsFrom (L' + 1) (fnScope (nthS P1 16)).names []) st.σ ∧ σ1 (L' + 1) = some (.cell none) ∧ σ1 (L' + 2) = some (.cell none) ∧ σ1 (L' + 3) = some (.cell none) ∧ ∀ x o, st.σ x = some o → σ1 x = some o := by
   refine ⟨_, rfl, ?_, ?_, ?_, fun x o e => ?_⟩
   · show upd (upd (upd st.σ (L' + 1) _) (L' + 2) _) (L' + 3) _ (L' + 1) = _
     rw [upd_ne _ _ ne13, upd_ne _ _ ne12, upd_same]; rfl
   · show upd (upd (upd st.σ (L' + 1) _) (L' + 2) _) (L' + 3) _ (L' + 2) = _
     rw [upd_ne _ _ ne23, upd_same]; rfl
   · show upd (upd (upd st.σ (L' + 1) _) (L' + 2) _) (L' + 3) _ (L' + 3) = _
     rw [upd_same]; rfl
   · show upd (upd (upd st.σ (L' + 1) _) (L' + 2) _) (L' + 3) _ x = _
     rw [upd_ne _ _ (fun z => by rw [z, n3] at e; exact xns e), upd_ne _ _ (fun z => by rw [z, n2] at e; exact xns e), upd_ne _ _ (fun z => by rw [z, n1] at e; exact xns e)]
     exact e
 refine xEAAAA hs0 fun σ1 hσ1 k1 k2 k3 k4 => ?_
 rw [← hσ1]
 refine SW.cons (XW.assignC (ca := L' + 1) (EW.var rfl ⟨none, k1, (SW.cons (XW.assignC (ca := L' + 2) (EW.list (LW.nil ⟨⟨none, (upd_ne _ _ ne12.symm).trans k2, (SW.cons (XW.assign (EW.listM (LW.nil ⟨fun a ha => ?_, by decide⟩))))⟩, by decide⟩))))⟩))
 replace ha : upd (upd σ1 (L' + 1) (.cell (some (.ref D)))) (L' + 2) (.cell (some (.lst []))) a = none := ha
 have hna : st.σ a = none := by
   cases e : st.σ a with
   | none => rfl
   | some o =>
     rw [upd_ne _ _ (fun z => by rw [z, n2] at e; exact xns e), upd_ne _ _ (fun z => by rw [z, n1] at e; exact xns e), k4 a o e] at ha
     exact xsn ha
 have a1 : a ≠ L' + 1 := fun z => by rw [z, upd_ne _ _ ne12, upd_same] at ha; exact xsn ha
 have a2 : a ≠ L' + 2 := fun z => by rw [z, upd_same] at ha; exact xsn ha
 have a3 : a ≠ L' + 3 := fun z => by rw [z, upd_ne _ _ ne23.symm, upd_ne _ _ ne13.symm, k3] at ha; exact xsn ha
 have d1 : D ≠ L' + 1 := fun z => by rw [z, n1] at hD; exact xns hD
 have d2 : D ≠ L' + 2 := fun z => by rw [z, n2] at hD; exact xns hD
 have dA : D ≠ a := fun z => by rw [z, hna] at hD; exact xns hD
 refine SW.cons ?_
 refine XW.while (by decide) (fun m st1 => ∃ T1 gone acc D1 ep1, m = total T1 ∧ Lead T L' a st.σ st1 T1 gone acc D1 ep1) ?_ (total T) ⟨T, [], [], D, ep, rfl, rfl, ?_, ?_, ?_, ⟨none, ?_⟩, upd_same .., fun y o e => ?_, hfr, hna, hn, fun t ht => ⟨(hok t ht).1, (hok t ht).2.1, by have := (hok t ht).2.2; lia⟩, by lia, fun c hc => ?_, ?_, ?_, (by intro c hc; cases hc), fun gs hg => hg⟩
 · intro m st1 zz1; refine xEEEEEA zz1 fun T1 gone acc D1 ep1 zz2 hI => ?_; subst zz2
   refine TW.plain (EW.bool (truthy_bool (ite_t rfl (SW.cons (xE hI.ce fun o3 ho3 => (XW.assignC (ca := L' + 3) (lead_comp hI.cl hI.od hI.nodup hI.ok hI.len ⟨o3, ho3, ?_⟩)))))))
   have hI2 : Lead T L' a st.σ (st1.put (L' + 3) (.cell (some (.lst ((leadL T1).map cA))))) T1 gone acc D1 ep1 := hI.same rfl rfl
   have hcl3 : (st1.put (L' + 3) (.cell (some (.lst ((leadL T1).map cA))))).σ (L' + 3) = some (.cell (some (.lst ((leadL T1).map cA)))) := upd_same ..
   generalize st1.put (L' + 3) (.cell (some (.lst ((leadL T1).map cA)))) = st2 at hI2 hcl3
   clear hI ho3
   refine SW.cons (XW.iff (TW.cmp (EW.varC hcl3 (EW.list (LW.nil ⟨(eq_data (dat_chars (leadL_asc T1)) (c := .lst []) ⟨rfl, rfl, by show (0 + 1 : Nat) ≤ 50; decide⟩ ?_), by decide⟩)) rfl)))
   rw [eqv_nil, List.isEmpty_map]
   refine truthy_bool ?_
   by_cases hl : leadL T1 = []
   · refine ite_t (by rw [hl]; rfl) (SW.cons (XW.ret (GW.loose (GW.frz ?_))))
     refine EW.var hI2.rg ⟨a, _, rfl, hI2.og, ⟨fun zw => none, st.σ⟩, (by intro x v hx; exact xns hx), fun y o e => ?_, ?_⟩
     · show era st2.σ a y = _
       rw [era_ne _ (fun z => by rw [z, hna] at e; exact xns e)]
       exact hI2.le y o e
     · have := hI2.run [] (.stop hl)
       rw [List.append_nil] at this
       exact h acc this
   · refine ite_f (by cases e : leadL T1 with | nil => exact (hl e).elim | cons _ _ => simp) (SW.nil ?_)
     have hgl := hI2.gl
     have hal := hI2.al
     have htot := (total_step T1 (leadL T1)).2 (by
       refine xE (List.exists_mem_of_ne_nil _ hl) fun c hc => (xEAA (hI2.each c (List.mem_filter.mp hc).1) fun t ht h1 zw => (xE (lead_row hc ht h1) fun r hr => ?_))
       exact ⟨t, ht, c, r, hr, hc⟩)
     have hll := leadL_len T1
     refine SW.cons (XW.append (EW.var hI2.rg ⟨a, rfl, (EW.lcomp (cl := [(Str.ofString "gone", L' + 2)]) rfl (ItE.of (EW.varC hcl3 ?_ rfl))), _, hI2.og⟩))
     refine ⟨_, _, iter_list (.inl rfl), fun zw zw => .inl rfl, by simp; lia, (leadL T1).map fun c => some (wA [c, 48 + gone.count c]), fun C => ?_, ?_⟩
     · refine ElemsW.of _ _ _ fun c hc => ?_
       have hc9 : gone.count c < 10 := by
         refine xEAA (hI2.each c (List.mem_filter.mp hc).1) fun t zw zw h2 => ?_
         lia
       intro st0 h0
       refine AsW.name (tests_nil (ite_t rfl (EW.binop (EW.var rfl (EW.callT hB.str bb_str (AW.cons (LW.cons (EW.callM (EW.varC (h0 _ _ hI2.cg) (MW.builtin (recv_list (.inl rfl)) F.plainAttrs_list F.slot_list_count F.type_list_count (AW.cons (LW.cons (EW.var rfl (LW.nil (call_countL (.inl rfl) (LW.nil (call_str_int ?_ (log_dig _ hc9))))))))) rfl)))))))))
       rw [W_dig _ hc9]
       exact addW ⟨rfl, rfl⟩ (by simp)
     rw [some_map, show ((leadL T1).map fun c => wA [c, 48 + gone.count c]) = (grpOf gone (leadL T1)).map wA from by rw [grpOf, List.map_map]; rfl]
     refine ⟨_, hI2.og, by simp; lia, ?_⟩
     have g1 : a ≠ L' + 1 := a1
     refine SW.cons (XW.assignC (ca := L' + 2) (EW.binop (EW.varC (ca := L' + 2) (v := .lst (gone.map cA)) ((upd_ne _ _ a2.symm).trans hI2.cg) (EW.varC (ca := L' + 3) (v := .lst ((leadL T1).map cA)) ((upd_ne _ _ a3.symm).trans hcl3) (add_lists (.inl rfl) (.inl rfl) ⟨_, (upd_ne _ _ a2.symm).trans hI2.cg, ?_⟩ (by simp; lia)) rfl) rfl)))
     rw [← List.map_append]
     have hdA : D1 ≠ a := fun z => by have := hI2.od; rw [z, hI2.og] at this; exact xao (Option.some.inj this) rfl
     have hdc : D1 ≠ L' + 1 := fun z => by have := hI2.od; rw [z, hI2.cl] at this; exact xao (Option.some.inj this) rfl
     have hdg : D1 ≠ L' + 2 := fun z => by have := hI2.od; rw [z, hI2.cg] at this; exact xao (Option.some.inj this) rfl
     have hdl : D1 ≠ L' + 3 := fun z => by have := hI2.od; rw [z, hcl3] at this; exact xao (Option.some.inj this) rfl
     refine xE ((⟨_, rfl⟩) : ∃ σ2, σ2 = upd (upd st2.σ a (.list (acc.map gA ++ [.lst ((grpOf gone (leadL T1)).map wA)]))) (L' + 2) (.cell (some (.lst ((gone ++ leadL T1).map cA))))) fun σ2 hσ2 => ?_
     have s1 : σ2 (L' + 1) = some (.cell (some (.ref D1))) := by rw [hσ2, upd_ne _ _ ne12, upd_ne _ _ a1.symm]; exact hI2.cl
     have s2 : σ2 (L' + 2) = some (.cell (some (.lst ((gone ++ leadL T1).map cA)))) := by rw [hσ2, upd_same]
     have s3 : σ2 (L' + 3) = some (.cell (some (.lst ((leadL T1).map cA)))) := by rw [hσ2, upd_ne _ _ ne23.symm, upd_ne _ _ a3.symm]; exact hcl3
     have s4 : σ2 D1 = some (.dict (toldE T1) ep1) := by rw [hσ2, upd_ne _ _ hdg, upd_ne _ _ hdA]; exact hI2.od
     have s5 : σ2 a = some (.list ((acc ++ [grpOf gone (leadL T1)]).map gA)) := by rw [hσ2, upd_ne _ _ a2, upd_same]; simp [gA]
     have s6 : ∀ y o, st.σ y = some o → σ2 y = some o := fun y o e => by
       rw [hσ2, upd_ne _ _ (fun z => by rw [z, n2] at e; exact xns e), upd_ne _ _ (fun z => by rw [z, hna] at e; exact xns e)]
       exact hI2.le y o e
     show SW _ _ _ _ _ _ _ ⟨st2.ρ, upd (upd st2.σ a (.list (acc.map gA ++ [.lst ((grpOf gone (leadL T1)).map wA)]))) (L' + 2) (.cell (some (.lst ((gone ++ leadL T1).map cA))))⟩
     rw [← hσ2]
     refine SW.cons (XW.assignC (ca := L' + 1) (EW.dcomp (cl := [(Str.ofString "lead", L' + 3)]) rfl (ItE.of (EW.callM (EW.varC (ca := L' + 1) (v := .ref D1) s1 (MW.builtin (recv_dict s4) F.plainAttrs_dict F.slot_dict_items F.type_dict_items (AW.nil (call_items s4 fun v hv => ?_))) rfl)))))
     have v1 : L' + 1 ≠ v := fun z => by rw [← z] at hv; rw [show σ2 (L' + 1) = none from hv] at s1; exact xns s1
     have v3 : L' + 3 ≠ v := fun z => by rw [← z] at hv; rw [show σ2 (L' + 3) = none from hv] at s3; exact xns s3
     have vD : D1 ≠ v := fun z => by rw [← z] at hv; rw [show σ2 D1 = none from hv] at s4; exact xns s4
     refine ⟨_, _, iter_items (es := toldE T1) (ep := ep1) (upd_same ..) ((upd_ne _ _ vD).trans s4), fun σ' hs => hs _ _ ((upd_ne _ _ vD).trans s4), by simp [toldE]; have := hI2.len; lia, toldE (stepT T1 (leadL T1)), fun C => ?_, fun E2 ep2 hE2 => ⟨some (.ref D1), ?_, ?_⟩⟩
     · rw [show (toldE T1).map pairA = T1.map fun t => pairA (W t.1, .lst (t.2.map cA)) from by rw [toldE, List.map_map]; rfl, show toldE (stepT T1 (leadL T1)) = T1.map fun t => (W t.1, .lst ((stepRow (leadL T1) t.2).map cA)) from by rw [toldE, stepT, List.map_map]; rfl]
       refine ElemsD.of T1 _ _ fun t htm => (xAA (hI2.ok t htm) fun zw ht2 ht3 => ?_)
       intro st0 h0
       have q3 : st0.σ (L' + 3) = some (.cell (some (.lst ((leadL T1).map cA)))) := h0 _ _ ((upd_ne _ _ v3).trans s3)
       refine AsW.tup (by decide) (AsW.name (AsW.name (asws_nil (EW.var rfl (EW.ifexp (TW.and (TW.cmp (EW.var rfl (EW.list (LW.nil ⟨(ne_data (dat_chars ht2) (c := .lst []) ⟨rfl, rfl, by show (0 + 1 : Nat) ≤ 50; decide⟩ ?_), by decide⟩))))))))))
       rw [eqv_nil, List.isEmpty_map]
       refine truthy_bool ?_
       cases hrow : t.2 with
       | nil =>
         exact ite_f (by decide) (ite_f (by decide) (EW.var rfl ⟨rfl, by simp [stepRow, hrow], rfl⟩))
       | cons x r =>
         refine ite_t (by rfl) (TW.and (TW.cmp (EW.sub (EW.var rfl (EW.int (idx_list (x := cA x) (.inl rfl) (by decide) rfl (EW.varC q3 ?_ rfl)))))))
         have hx128 : x < 128 := ht2 x (by rw [hrow]; exact .head _)
         refine in_list (dat_W (asc_one hx128)) (dat_chars (leadL_asc T1)) ?_
         rw [in_chars]
         refine truthy_bool ?_
         cases hd : decide (x ∈ leadL T1) with
         | false =>
           exact ite_f (by decide) (ite_f (by decide) (EW.var rfl (⟨rfl, by simp only [stepRow, hrow, hd]; rfl, rfl⟩)))
         | true =>
           exact ite_t rfl (TW.and_nil (ite_t rfl (EW.cut (EW.var rfl (OW.yes (EW.int (OW.no (cut_from (.inl rfl) (⟨rfl, by simp only [stepRow, hrow, hd]; rfl, rfl⟩) (by rw [hrow] at ht3; simp at ht3 ⊢; lia)))))))))
     · exact (upd_ne _ _ (fun z => by
         have : upd σ2 v (.raw (itemsObj D1)) E2 = none := hE2
         rw [← z, upd_ne _ _ v1, s1] at this; exact xsn this)).trans ((upd_ne _ _ v1).trans s1)
     · have hE3 : upd σ2 v (.raw (itemsObj D1)) E2 = none := hE2
       have new : ∀ y o, σ2 y = some o → y ≠ v ∧ y ≠ E2 := fun y o e => by
         have h1 : y ≠ v := fun z => by rw [z, show σ2 v = none from hv] at e; exact xns e
         exact ⟨h1, fun z => by rw [← z, upd_ne _ _ h1, e] at hE3; exact xsn hE3⟩
       have keep : ∀ y o, y ≠ L' + 1 → σ2 y = some o → upd (upd (upd σ2 v (.raw (itemsObj D1))) E2 (.dict (asetAll [] (toldE (stepT T1 (leadL T1)))) ep2)) (L' + 1) (.cell (some (.ref E2))) y = some o := fun y o h1 e => by
         refine xA (new y o e) fun h2 h3 => ?_
         rw [upd_ne _ _ h1, upd_ne _ _ h3, upd_ne _ _ h2]; exact e
       have hEc : E2 ≠ L' + 1 := (new _ _ s1).2.symm
       have hkey := keys_step T1 (leadL T1)
       have hnd2 : (keys (stepT T1 (leadL T1))).Nodup := by rw [hkey]; exact hI2.nodup
       refine SW.nil ?_
       refine ⟨total (stepT T1 (leadL T1)), htot, stepT T1 (leadL T1), gone ++ leadL T1, acc ++ [grpOf gone (leadL T1)], E2, ep2, rfl, hI2.rg, upd_same .., ?_, keep _ _ ne12.symm s2, ⟨_, keep _ _ ne13.symm s3⟩, keep _ _ a1 s5, fun y o e => keep _ _ (fun z => by rw [z, n1] at e; exact xns e) (s6 y o e), hfr, hna, hnd2, fun t ht => ?_, by simp [stepT]; exact hI2.len, fun c hc => ?_, ?_, ?_, ?_, fun gs hg => ?_⟩
       · show upd (upd _ E2 _) (L' + 1) _ E2 = _
         rw [upd_ne _ _ hEc, upd_same, asetAll_fresh _ [] (by rw [List.nil_append]; exact toldE_nodup hnd2), List.nil_append]
       · refine xEA (List.mem_map.mp ht) fun u hu zz3 => ?_; subst zz3
         refine xAA (hI2.ok u hu) fun w1 w2 w3 => (⟨w1, fun x hx => w2 x ?_, by have := stepRow_len (leadL T1) u.2; show (stepRow (leadL T1) u.2).length ≤ 1000; lia⟩)
         have hx' : x ∈ stepRow (leadL T1) u.2 := hx
         cases e : u.2 with
         | nil => rw [e] at hx'; cases hx'
         | cons y r =>
           rw [e] at hx'
           have : x ∈ (if decide (y ∈ leadL T1) then r else y :: r) := hx'
           split at this
           · exact .tail _ this
           · exact this
       · refine xEAA (hI2.each c hc) fun t ht w1 w2 => ⟨(t.1, stepRow (leadL T1) t.2), List.mem_map.mpr ⟨t, ht, rfl⟩, w1, ?_⟩
         rw [List.count_append]
         by_cases hcl : c ∈ leadL T1
         · refine xE (lead_row hcl ht w1) fun r hr => ?_
           have := leadL_count T1 c
           have e : stepRow (leadL T1) t.2 = r := by rw [hr]; show (if decide (c ∈ leadL T1) then r else c :: r) = r; rw [if_pos (by simpa using hcl)]
           show _ + (stepRow (leadL T1) t.2).length ≤ 9
           rw [e]
           rw [hr] at w2
           simp at w2
           lia
         · rw [List.count_eq_zero_of_not_mem hcl]
           have := stepRow_len (leadL T1) t.2
           show _ + (stepRow (leadL T1) t.2).length ≤ 9
           lia
       · rw [List.length_append]; lia
       · rw [List.length_append, List.length_singleton]; lia
       · intro x hx
         rcases List.mem_append.mp hx with hx | hx
         · exact hI2.ga x hx
         · exact leadL_asc T1 x hx
       · have := hI2.run _ (.step hl hg)
         rw [show acc ++ [grpOf gone (leadL T1)] ++ gs = acc ++ grpOf gone (leadL T1) :: gs from by simp]
         exact this
 · show upd (upd (upd σ1 (L' + 1) _) (L' + 2) _) a _ (L' + 1) = _
   rw [upd_ne _ _ a1.symm, upd_ne _ _ ne12, upd_same]
 · show upd (upd (upd σ1 (L' + 1) _) (L' + 2) _) a _ D = _
   rw [upd_ne _ _ dA, upd_ne _ _ d2, upd_ne _ _ d1]; exact k4 D _ hD
 · show upd (upd (upd σ1 (L' + 1) _) (L' + 2) _) a _ (L' + 2) = _
   rw [upd_ne _ _ a2.symm, upd_same]; rfl
 · show upd (upd (upd σ1 (L' + 1) _) (L' + 2) _) a _ (L' + 3) = _
   rw [upd_ne _ _ a3.symm, upd_ne _ _ ne23.symm, upd_ne _ _ ne13.symm]; exact k3
 · show upd (upd (upd σ1 (L' + 1) _) (L' + 2) _) a _ y = _
   rw [upd_ne _ _ (fun z => by rw [z, hna] at e; exact xns e), upd_ne _ _ (fun z => by rw [z, n2] at e; exact xns e), upd_ne _ _ (fun z => by rw [z, n1] at e; exact xns e)]
   exact k4 y o e
 · exact xEA (heach c hc) fun t ht h1 => (⟨t, ht, h1, by have := (hok t ht).2.2; simpa using this⟩)
 · have : ∀ l : Told, (∀ t ∈ l, t.2.length ≤ 9) → total l ≤ 9 * l.length := fun l => by
     induction l with
     | nil => exact fun zw => Nat.le_refl _
     | cons t l ih =>
       intro hl
       have h1 := ih fun x hx => hl x (.tail _ hx)
       have h2 := hl t (.head _)
       have e2 : total (t :: l) = t.2.length + total l := by simp [total]
       rw [e2, List.length_cons]; lia
   have := this T fun t ht => (hok t ht).2.2
   simp; lia
 · have : ∀ l : Told, (∀ t ∈ l, t.2.length ≤ 9) → total l ≤ 9 * l.length := fun l => by
     induction l with
     | nil => exact fun zw => Nat.le_refl _
     | cons t l ih =>
       intro hl
       have h1 := ih fun x hx => hl x (.tail _ hx)
       have h2 := hl t (.head _)
       have e2 : total (t :: l) = t.2.length + total l := by simp [total]
       rw [e2, List.length_cons]; lia
   have := this T fun t ht => (hok t ht).2.2
   simp; lia
theorem bb_list : bootBuiltins (Str.ofString "list") = some (.type "list") := by decide +kernel
noncomputable def pairs6 : List (List Nat) := [[97, 98], [97, 99], [97, 100], [98, 99], [98, 100], [99, 100]]
noncomputable abbrev Views := List (List Nat × List Nat)
noncomputable def viewA (v : List Nat × List Nat) : AV := .tup [wA v.1, wA v.2]
structure ViewsOK (w o : List Nat) (vs : Views) : Prop where
 len : w.length = 5
 abc : ∀ c ∈ w, c ∈ abcd
 perm : o.Perm w
 split : ∃ vs0 : Views, vs = vs0 ++ abcd.map (fun c => ([c, c], w)) ∧ (vs0.map (·.1)).Sublist pairs6 ∧ ∀ v ∈ vs0, v.2 = w ∨ v.2 = o
theorem divP0 : ∀ j : Nat, j ≤ 64 → decide ((if (j : Int) == 0 then 0 else (j : Int).natAbs.log2 / 30 + 1) > 300) = false := by decide +kernel
theorem divP {j : Nat} (h : j ≤ 64) (c : Int) : Builtin.divisionGoesByPylong c (j : Int) = false := by
 unfold Builtin.divisionGoesByPylong
 show (decide ((if (j : Int) == 0 then 0 else (j : Int).natAbs.log2 / 30 + 1) > 300) && _) = false
 rw [divP0 j h]; rfl
noncomputable def letOf (x : Int) : Nat := abcd.getD (x.fmod 4).toNat 0
theorem letOf_get (x : Int) : abcd[(x.fmod 4).toNat]? = some (letOf x) ∧ letOf x ∈ abcd := by
 have h := fmod_lt (a := x) (m := 4) (by decide)
 unfold letOf
 generalize x.fmod 4 = k at h
 refine xE (Int.eq_ofNat_of_zero_le h.1) fun k zz1 => ?_; subst zz1
 have hk : k < 4 := by lia
 have key : ∀ k : Nat, k < 4 → abcd[((k : Nat) : Int).toNat]? = some (abcd.getD ((k : Nat) : Int).toNat 0) ∧ abcd.getD ((k : Nat) : Int).toNat 0 ∈ abcd := by decide
 exact key k hk
theorem b_views (fd : FuncData) (h1 : fd.params = fnArgs (nthS P1 10)) (h2 : fd.defaults = .none) (h3 : fd.kwdefaults = .none) (v : Value) : bindArgs fd ⟨[v], []⟩ = pure [(Str.ofString "script", v)] := b_any h1 h2 h3 fun _ => rfl
theorem pairs6_A : [AV.str (Str.ofString "ab"), .str (Str.ofString "ac"), .str (Str.ofString "ad"), .str (Str.ofString "bc"), .str (Str.ofString "bd"), .str (Str.ofString "cd")] = pairs6.map wA := by
 have h1 : Str.ofString "ab" = W [97, 98] := by decide +kernel
 have h2 : Str.ofString "ac" = W [97, 99] := by decide +kernel
 have h3 : Str.ofString "ad" = W [97, 100] := by decide +kernel
 have h4 : Str.ofString "bc" = W [98, 99] := by decide +kernel
 have h5 : Str.ofString "bd" = W [98, 100] := by decide +kernel
 have h6 : Str.ofString "cd" = W [99, 100] := by decide +kernel
 rw [h1, h2, h3, h4, h5, h6]; rfl
theorem five_at {d r : List Nat} {a : Nat} (h : [5, 4, 3, 2, 1] = d ++ a :: r) : a + d.length = 5 ∧ 1 ≤ a := by
 have h1 : ([5, 4, 3, 2, 1] : List Nat)[d.length]? = some a := by rw [h]; simp
 generalize d.length = m at h1
 rcases m with _ | _ | _ | _ | _ | m <;> simp at h1 <;> lia
theorem erase_perm {x : Nat} : ∀ (l : List Nat) (i : Nat), l[i]? = some x → (x :: l.eraseIdx i).Perm l
 | [], _, h => by simp at h
 | y :: l, 0, h => by simp at h; subst h; exact .refl _
 | y :: l, i + 1, h => by
   have h1 := erase_perm l i (by simpa using h)
   show (x :: y :: l.eraseIdx i).Perm (y :: l)
   exact (List.Perm.swap _ _ _).trans (h1.cons y)
theorem erase_map (f : Nat → AV) : ∀ (l : List Nat) (i : Nat), (l.map f).eraseIdx i = (l.eraseIdx i).map f
 | [], _ => rfl
 | _ :: _, 0 => rfl
 | y :: l, i + 1 => by show f y :: (l.map f).eraseIdx i = _; rw [erase_map f l i]; rfl
theorem flat_one : ∀ l : List Nat, (l.map fun x => [x]).flatten = l
 | [] => rfl
 | a :: l => by have := flat_one l; simpa using this
theorem sum_one : ∀ l : List Nat, ((l.map fun x => [x]).map List.length).sum = l.length
 | [] => rfl
 | a :: l => by have := sum_one l; simp only [List.map_cons, List.sum_cons, List.length_cons, List.length_nil] at this ⊢; lia
theorem call_views {f : Addr} {script : List Int} (F0 : FnK p f (nthS P1 10) .none) (hB : KB2 p) (hb : b ≠ .handler) (hz : script.length ≤ 63)
   (h : ∀ w o vs, ViewsOK w o vs → Q (.tup [wA w, wA o, .lst (vs.map viewA)]) st) : CW p (n + 1) b env (.ref f) [.lst (script.map .int)] Q X st := by
 refine xEE F0.ex fun fo fd K => (callFnCC K (bind1 K b_views) hb (by intro y hy; simp only [List.mem_cons, List.not_mem_nil, or_false] at hy; subst hy; exact .inl rfl) (by decide +kernel) rfl rfl rfl fun L' q cd hcd hfr => ?_)
 have n1 : st.σ (L' + 1) = none := hfr _ (by lia)
 refine xE ((⟨_, rfl⟩) : ∃ σ0, σ0 = upd st.σ (L' + 1) (AObj.cell none)) fun σ0 hσ0 => ?_
 show SW _ _ _ _ _ _ _ ⟨_, upd st.σ (L' + 1) (AObj.cell none)⟩
 rw [← hσ0]
 refine SW.cons (XW.assign (EW.listM ?_))
 iterate 8 (refine LW.cons ?_; refine EW.int ?_)
 refine LW.nil ⟨fun a ha => ?_, by decide⟩
 replace ha : σ0 a = none := ha
 refine SW.cons (XW.for rfl (ItE.enum hB.enumerate (EW.cut (EW.var rfl (OW.no (OW.yes (EW.int (cut_upto (.inl rfl) ⟨_, .inl rfl, ?_⟩ (by simp; lia)))))))))
 rw [← List.map_take, enumA_idx0]
 refine ForW.go (fun d st1 => st1.ρ "cells" = some (.ref a) ∧ ∃ c : List Int, st1.σ = upd σ0 a (.list (c.map .int)) ∧ c.length = 8) (fun zw zw zw => .inl rfl) ?_ ?_ ⟨rfl, [0, 1, 2, 0, 3, 42, 45, 40], rfl, rfl⟩
 · intro st1 zz2; refine xAEA zz2 fun e1 c e2 hc8 => ?_
   refine SW.nil ?_
   refine GW.frzV (a := a) (x := "cells") e1 (by rw [e2]; exact upd_same ..) ?_
   have e3 : ((st1.del a).set "cells" (.lst (c.map .int))).σ = σ0 := by
     show era st1.σ a = σ0
     rw [e2]; exact era_upd ha
   have e4 : ((st1.del a).set "cells" (.lst (c.map .int))).ρ "cells" = some (.lst (c.map .int)) := rfl
   generalize (st1.del a).set "cells" (.lst (c.map .int)) = st2 at e3 e4
   have hcc : st2.σ (L' + 1) = some (.cell none) := by rw [e3, hσ0]; exact upd_same ..
   refine SW.cons (XW.assignC (ca := L' + 1) (EW.callM (EW.str (MW.builtin recv_str F.plainAttrs_str F.slot_str_join F.type_str_join (AW.cons (LW.cons (EW.lcomp (cl := []) rfl (ItE.of (EW.cut (EW.var e4 (OW.no (OW.yes (EW.int (cut_upto (.inl rfl) ?_ (by simp; lia)))))))))))))))
   refine ⟨_, _, iter_list (.inl rfl), fun zw zw => .inl rfl, by simp; lia, (c.take 5).map fun x => some (cA (letOf x)), fun C => ?_, ?_⟩
   · rw [← List.map_take]
     refine ElemsW.of (c.take 5) _ _ fun x hx => ?_
     intro st0 h0
     refine AsW.name (tests_nil (ite_t rfl (EW.sub (EW.str ?_))))
     rw [W_abcd]
     refine EW.binop (EW.var rfl (EW.int (mod_int ?_)))
     have hm := fmod_lt (a := x) (m := 4) (by decide)
     exact idx_str (c := letOf x) hm.1 (letOf_get x).1 ⟨rfl, rfl⟩ rfl (by lia)
   rw [some_map]
   refine LW.nil (xE ((⟨_, rfl⟩) : ∃ w, w = (c.take 5).map letOf) fun w hw => ?_)
   have hw5 : w.length = 5 := by rw [hw]; simp; lia
   have hwa : ∀ x ∈ w, x ∈ abcd := fun x hx => by
     rw [hw] at hx
     refine xEA (List.mem_map.mp hx) fun y zw zz3 => ?_; subst zz3
     exact (letOf_get y).2
   have hasc : Asc w := fun x hx => abcd_asc x (hwa x hx)
   refine call_join (l := w.map fun x => [x]) (.inl (by rw [hw, List.map_map, List.map_map]; rfl)) ?_ (by rw [sum_one]; lia)
   rw [flat_one]
   refine ⟨none, hcc, ?_⟩
   have e5 : (st2.put (L' + 1) (.cell (some (wA w)))).σ = upd st.σ (L' + 1) (.cell (some (wA w))) := by
     show upd st2.σ _ _ = _
     rw [e3, hσ0, upd_upd]
   have e6 : (st2.put (L' + 1) (.cell (some (wA w)))).ρ "cells" = some (.lst (c.map .int)) := e4
   generalize st2.put (L' + 1) (.cell (some (wA w))) = st3 at e5 e6
   have e7 : st3.σ (L' + 1) = some (.cell (some (wA w))) := by rw [e5]; exact upd_same ..
   refine SW.cons (XW.assign (EW.callT hB.list bb_list (AW.cons (LW.cons (EW.varC e7 (LW.nil (call_list_strM (by decide) (fun D hD => ?_) (by lia))) rfl)))))
   have hD1 : D ≠ L' + 1 := fun z => by rw [z, e7] at hD; exact xsn hD
   refine SW.cons (XW.assign (EW.str ?_))
   refine SW.cons (XW.assign (EW.sub (EW.var e6 (EW.int (xE ((⟨_, List.getElem?_eq_getElem (by lia)⟩) : ∃ x, c[5]? = some x) fun c5 hc5 => (idx_list (x := .int c5) (.inl rfl) (by decide) (by simp [hc5]) ?_))))))
   refine SW.cons (XW.for rfl (ItE.of (EW.list ?_)))
   iterate 5 (refine LW.cons ?_; refine EW.int ?_)
   refine LW.nil ⟨⟨_, _, iter_list (.inl rfl), ?_⟩, by decide⟩
   show ForW _ _ _ _ _ _ _ _ _ (([5, 4, 3, 2, 1] : List Nat).map fun i => AV.int (i : Nat)) _ _
   refine ForW.go (fun d st4 => st4.ρ "cells" = some (.lst (c.map .int)) ∧ st4.ρ "rest" = some (.ref D) ∧ ∃ o rs i, st4.ρ "other" = some (wA o) ∧ st4.ρ "code" = some (.int i) ∧ st4.σ = upd st3.σ D (.list (rs.map cA)) ∧ rs.length + d.length = 5 ∧ (o ++ rs).Perm w) (fun zw zw zw => .inl rfl) ?_ ?_ ⟨e6, rfl, [], w, c5, rfl, rfl, rfl, by simp; lia, .refl _⟩
   · intro st4 zz4; refine xAAEEEAAAA zz4 fun f1 f2 o rs i f3 f4 f5 f6 f7 => ?_
     have hrs : rs = [] := List.length_eq_zero_iff.mp (by simpa using f6)
     subst hrs
     rw [List.append_nil] at f7
     have hol : o.length = 5 := by rw [f7.length_eq]; exact hw5
     have g1 : st4.σ (L' + 1) = some (.cell (some (wA w))) := by rw [f5, upd_ne _ _ hD1.symm]; exact e7
     have g2 : ∀ y o', st.σ y = some o' → st4.σ y = some o' := fun y o' e => by
       have h1 : y ≠ L' + 1 := fun z => by rw [z, n1] at e; exact xns e
       rw [f5, upd_ne _ _ (fun z => by rw [← z, e5, upd_ne _ _ h1, e] at hD; exact xsn hD), e5, upd_ne _ _ h1]; exact e
     clear f5 f4 f2
     refine SW.nil ?_
     refine SW.cons (XW.assign (EW.listM (LW.nil ⟨fun V hV => ?_, by decide⟩)))
     have hV1 : V ≠ L' + 1 := fun z => by rw [z, g1] at hV; exact xsn hV
     refine SW.cons (XW.for rfl (ItE.enum hB.enumerate (EW.list ?_)))
     iterate 6 (refine LW.cons ?_; refine EW.str ?_)
     refine LW.nil ⟨⟨_, .inl rfl, ?_⟩, by decide⟩
     rw [pairs6_A, enumA_idx0]
     refine ForW.go (fun d st5 => st5.ρ "cells" = some (.lst (c.map .int)) ∧ st5.ρ "views" = some (.ref V) ∧ st5.ρ "other" = some (wA o) ∧ ∃ vs : Views, st5.σ = upd st4.σ V (.list (vs.map viewA)) ∧ (vs.map (·.1)).Sublist (d.map (·.1)) ∧ ∀ v ∈ vs, v.2 = w ∨ v.2 = o) (fun zw zw zw => .inl rfl) ?_ ?_ ⟨f1, rfl, f3, [], rfl, .slnil, by intro v hv; cases hv⟩
     · intro st5 zz5; refine xAAAEAA zz5 fun h1 h2 h3 vs h4 h5 h6 => ?_
       have k1 : st5.σ (L' + 1) = some (.cell (some (wA w))) := by rw [h4, upd_ne _ _ hV1.symm]; exact g1
       have k2 : st5.σ V = some (.list (vs.map viewA)) := by rw [h4]; exact upd_same ..
       have k3 : ∀ y o', st.σ y = some o' → st5.σ y = some o' := fun y o' e => by
         have := g2 y o' e
         rw [h4, upd_ne _ _ (fun z => by rw [← z, this] at hV; exact xsn hV)]; exact this
       have hvl : vs.length ≤ 6 := by
         have := h5.length_le
         simpa [pairs6] using this
       refine SW.nil ?_
       refine SW.cons (XW.ret (GW.loose (EW.tup (LW.cons (EW.varC k1 (LW.cons (EW.var h3 (LW.cons (EW.binop (EW.var h2 (EW.lcomp (cl := [(Str.ofString "word", L' + 1)]) rfl (ItE.of (EW.str ?_)))))))) rfl)))))
       rw [W_abcd]
       refine ⟨_, _, iter_str abcd_asc, fun zw zw => trivial, by decide, abcd.map fun x => some (viewA ([x, x], w)), fun C => ?_, ?_⟩
       · refine ElemsW.of abcd _ _ fun x hx => ?_
         intro st0 h0
         exact AsW.name (tests_nil (ite_t rfl (EW.tup (LW.cons (EW.binop (EW.var rfl (EW.var rfl (addW (LW.cons (EW.varC (h0 _ _ k1) (LW.nil ⟨⟨rfl, rfl⟩, by simp⟩) rfl)) (by simp)))))))))
       rw [some_map]
       refine add_lists (.inr ⟨V, rfl, k2⟩) (.inl rfl) (LW.nil ⟨⟨⟨fun zw => none, st.σ⟩, (by intro x v hx; exact xns hx), k3, ?_⟩, by simp⟩) (by simp [abcd]; lia)
       have := h w o (vs ++ abcd.map fun x => ([x, x], w)) ⟨hw5, hwa, f7, vs, rfl, by rw [List.zipIdx_map_fst] at h5; exact h5, h6⟩
       rw [List.map_append, List.map_map] at this
       exact this
     · intro d pk r st5 e zz6; refine xAAAEAA zz6 fun h1 h2 h3 vs h4 h5 h6 => ?_
       refine xA (zip_split e) fun hsp hk => ?_
       have hk6 : pk.2 < 6 := by
         have := congrArg List.length e
         simp [pairs6] at this
         lia
       have k2 : st5.σ V = some (.list (vs.map viewA)) := by rw [h4]; exact upd_same ..
       have k1 : st5.σ (L' + 1) = some (.cell (some (wA w))) := by rw [h4, upd_ne _ _ hV1.symm]; exact g1
       have hp64 : 2 ^ pk.2 ≤ 64 ∧ 1 ≤ 2 ^ pk.2 := by
         have : ∀ k : Nat, k < 6 → 2 ^ k ≤ 64 ∧ 1 ≤ 2 ^ k := by decide
         exact this _ hk6
       refine xE ((⟨_, List.getElem?_eq_getElem (by lia)⟩) : ∃ x, c[6]? = some x) fun c6 hc6 => (xE ((⟨_, List.getElem?_eq_getElem (by lia)⟩) : ∃ x, c[7]? = some x) fun c7 hc7 => ?_)
       have hvl : vs.length ≤ 6 := by
         have h8 := h5.length_le
         have := congrArg List.length e
         simp [pairs6] at h8 this
         lia
       refine AsW.tup (by decide) (AsW.name (AsW.name (asws_nil (SW.cons (XW.iff (TW.cmp (EW.binop (EW.binop (EW.sub (EW.var h1 (EW.int (idx_list (x := .int c6) (.inl rfl) (by decide) (by simp [hc6]) (EW.binop (EW.int (EW.var rfl (pow2_int (by lia) (div_int (EW.int (mod_int (EW.int (eq_int (truthy_bool ?_))))) (divP hp64.1 _) (by lia))))))))))))))))))
       by_cases hbit : (c6.fdiv ((2 ^ pk.2 : Nat) : Int)).fmod 2 = 1
       · refine ite_t (by simpa using hbit) (SW.cons (XW.append (EW.var h2 ⟨V, rfl, (EW.tup (LW.cons (EW.var rfl (LW.cons (EW.sub (EW.list (LW.cons (EW.varC k1 (LW.cons (EW.var h3 (LW.nil ⟨(EW.binop (EW.binop (EW.sub (EW.var h1 (EW.int (idx_list (x := .int c7) (.inl rfl) (by decide) (by simp [hc7]) (EW.binop (EW.int (EW.var rfl (pow2_int (by lia) (div_int (EW.int (mod_int ?_)) (divP hp64.1 _) (by lia)))))))))))), by simp⟩))) rfl)))))))), _, k2⟩)))
         refine xEA ((by
           have hm := fmod_lt (a := c7.fdiv ((2 ^ pk.2 : Nat) : Int)) (m := 2) (by decide)
           have : (c7.fdiv ((2 ^ pk.2 : Nat) : Int)).fmod 2 = 0 ∨ (c7.fdiv ((2 ^ pk.2 : Nat) : Int)).fmod 2 = 1 := by lia
           rcases this with z | z
           · rw [z]; exact ⟨w, rfl, .inl rfl⟩
           · rw [z]; exact ⟨o, rfl, .inr rfl⟩) : ∃ u, [wA w, wA o][((c7.fdiv ((2 ^ pk.2 : Nat) : Int)).fmod 2).toNat]? = some (wA u) ∧ (u = w ∨ u = o)) fun u hu hu2 => ?_
         have hm := fmod_lt (a := c7.fdiv ((2 ^ pk.2 : Nat) : Int)) (m := 2) (by decide)
         refine idx_list (x := wA u) (.inl rfl) hm.1 hu (LW.nil ⟨?_, by simp⟩) rfl (by lia)
         refine ⟨_, k2, by simp; lia, ?_⟩
         refine SW.nil (SW.nil ?_)
         refine ⟨h1, h2, h3, vs ++ [(pk.1, u)], ?_, ?_, fun v hv => ?_⟩
         · show upd st5.σ V _ = _
           rw [h4, upd_upd]; simp [viewA]
         · rw [List.map_append, List.map_append]
           exact h5.append (.refl _)
         · rcases List.mem_append.mp hv with hv | hv
           · exact h6 v hv
           · rw [List.mem_singleton.mp hv]; exact hu2
       · refine ite_f (by simpa using hbit) (SW.nil (SW.nil ⟨h1, h2, h3, vs, h4, ?_, h6⟩))
         rw [List.map_append]
         exact h5.trans (List.sublist_append_left _ _)
   · intro d sz r st4 e zz7; refine xAAEEEAAAA zz7 fun f1 f2 o rs i f3 f4 f5 f6 f7 => ?_
     refine xA (five_at e) fun hs1 hs2 => ?_
     have hrl : rs.length = sz := by lia
     have g2 : st4.σ D = some (.list (rs.map cA)) := by rw [f5]; exact upd_same ..
     have hm := fmod_lt (a := i) (m := (sz : Int)) (by lia)
     have hlt : (i.fmod (sz : Int)).toNat < rs.length := by lia
     have hsp : o.length + rs.length = 5 := by have := f7.length_eq; rw [List.length_append] at this; lia
     refine xE ((⟨_, List.getElem?_eq_getElem hlt⟩) : ∃ x, rs[(i.fmod (sz : Int)).toNat]? = some x) fun x hx => (AsW.name (SW.cons (XW.assign (EW.binop (EW.var f3 (EW.callM (EW.var f2 (MW.builtin (recv_list (.inr ⟨D, rfl, g2⟩)) F.plainAttrs_list F.slot_list_pop F.type_list_pop (AW.cons (LW.cons (EW.binop (EW.var f4 (EW.var rfl (mod_int (LW.nil (call_popAt (a := cA x) g2 hm.1 (by rw [List.getElem?_map, hx]; rfl) (addW ?_ (by simp; lia)) (by simp; lia))) (by lia)))))))))))))))
     refine SW.cons (XW.assign (EW.binop (EW.var f4 (EW.var rfl (div_int (SW.nil ?_) (divP (by lia) _) (by lia))))))
     refine ⟨f1, f2, o ++ [x], rs.eraseIdx (i.fmod (sz : Int)).toNat, _, rfl, rfl, ?_, ?_, ?_⟩
     · show upd st4.σ D _ = _
       rw [f5, upd_upd, erase_map]
     · rw [List.length_eraseIdx, if_pos hlt]; simp; lia
     · have h1 := erase_perm rs _ hx
       rw [List.append_assoc]
       exact (List.Perm.append_left o h1).trans f7
 · intro d xk r st1 e zz8; refine xAEA zz8 fun e1 c e2 hc8 => ?_
   refine xA (zip_split e) fun hsp hk => ?_
   have hget : st1.σ a = some (.list (c.map .int)) := by rw [e2]; exact upd_same ..
   have hm := fmod_lt (a := (xk.2 : Int)) (m := 8) (by decide)
   refine xE ((⟨_, List.getElem?_eq_getElem (by lia)⟩) : ∃ y, c[((xk.2 : Int).fmod 8).toNat]? = some y) fun y hy => (AsW.tup (by decide) (AsW.name (AsW.name (asws_nil (SW.cons (XW.augSub (EW.var e1 (EW.binop (EW.var rfl (EW.int (mod_int (get_list (x := .int y) (.inr ⟨a, rfl, hget⟩) hm.1 (by rw [List.getElem?_map, hy]; rfl) (EW.binop (EW.var rfl (EW.int (mod_int (iadd_int (si_list hget hm.1 (by simp; lia) (SW.nil (⟨e1, c.set ((xk.2 : Int).fmod 8).toNat (y + xk.1.fmod 960), ?_, by simp; exact hc8⟩)) (by lia))))))) (by lia)))))))))))))
   show upd st1.σ a _ = _
   rw [e2, upd_upd, List.map_set]
noncomputable def fr3 (D c1 c2 : Addr) (oD o1 o2 : AObj) (τ : Addr → Option AObj) : Addr → Option AObj := upd (upd (upd τ D oD) c2 o2) c1 o1
theorem GW.frame3 {α β : Type} {R : Heap → β → α → Prop} {t : Sem α} {D c1 c2 : Addr} {oD o1 o2 : AObj} {τ : Addr → Option AObj} {ρ : String → Option AV} {Q : β → St → Prop} (h1 : τ D = none) (h2 : τ c1 = none) (h3 : τ c2 = none) (n1 : D ≠ c1) (n2 : D ≠ c2) (n3 : c1 ≠ c2)
   (H : GW p n b env R t (fun y st1 => st1.σ D = none → st1.σ c1 = none → st1.σ c2 = none → Q y ⟨st1.ρ, fr3 D c1 c2 oD o1 o2 st1.σ⟩) (fun c st1 => X c ⟨st1.ρ, fr3 D c1 c2 oD o1 o2 st1.σ⟩) ⟨ρ, τ⟩) : GW p n b env R t Q X ⟨ρ, fr3 D c1 c2 oD o1 o2 τ⟩ := by
 refine GW.frame (a := c1) (o := o1) (upd_same ..) ?_
 have e1 : era (fr3 D c1 c2 oD o1 o2 τ) c1 = upd (upd τ D oD) c2 o2 := era_upd (by rw [upd_ne _ _ n3, upd_ne _ _ n1.symm]; exact h2)
 show GW p n b env R t _ _ ⟨ρ, era (fr3 D c1 c2 oD o1 o2 τ) c1⟩
 rw [e1]
 refine GW.frame (a := c2) (o := o2) (upd_same ..) ?_
 have e2 : era (upd (upd τ D oD) c2 o2) c2 = upd τ D oD := era_upd (by rw [upd_ne _ _ n2.symm]; exact h3)
 show GW p n b env R t _ _ ⟨ρ, era (upd (upd τ D oD) c2 o2) c2⟩
 rw [e2]
 refine GW.frame (a := D) (o := oD) (upd_same ..) ?_
 have e3 : era (upd τ D oD) D = τ := era_upd h1
 show GW p n b env R t _ _ ⟨ρ, era (upd τ D oD) D⟩
 rw [e3]
 refine GW.mono H (fun y st1 q k1 k2 k3 => q k1 ?_ ?_) fun zw zw z => z
 · have : upd (upd st1.σ D oD) c2 o2 c1 = none := k3
   rwa [upd_ne _ _ n3, upd_ne _ _ n1.symm] at this
 · have : upd st1.σ D oD c2 = none := k2
   rwa [upd_ne _ _ n2.symm] at this
theorem cut2 {m : List Nat} {c : Nat} (h : m.length = 2) : Txt.slice (W (m ++ [c])) none (some 2) = W m ∧ Txt.slice (W (m ++ [c])) (some 2) none = W [c] := by
 have h1 := slice_upto (m ++ [c]) (j := 2) (by simp; lia)
 have h2 := slice_from (m ++ [c]) (i := 2) (by simp; lia)
 refine ⟨h1.trans ?_, h2.trans ?_⟩
 · rw [List.take_append_of_le_length (by lia), List.take_of_length_le (by lia)]
 · rw [List.drop_append_of_le_length (by lia), List.drop_of_length_le (by lia)]; rfl
noncomputable def keepW (which : Int) (x y c : Nat) : Bool := decide (c = x) || (if which = 1 then decide (c = y) else !decide (c = y))
theorem restF_delta {which : Int} (hw : which = 1 ∨ which = 2) (x y c : Nat) : restF (tagOf which) (W (mkD x y c ++ [c])) = if keepW which x y c then some (W [c]) else none := by
 refine xA (cut2 (c := c) (mkD_len x y c)) fun h1 h2 => ?_
 unfold restF
 rw [h1, h2]
 have t1 : tagOf 1 = W [45, 32] := W_minus
 have t2 : tagOf 2 = W [43, 32] := W_plus
 rw [W_both]
 unfold mkD keepW
 have d1 : (W [32, 32] == W [45, 32]) = false := by decide +kernel
 have d2 : (W [32, 32] == W [43, 32]) = false := by decide +kernel
 have d3 : (W [45, 32] == W [43, 32]) = false := by decide +kernel
 have d4 : (W [43, 32] == W [45, 32]) = false := by decide +kernel
 by_cases c1 : c = x
 · rw [if_pos c1]; simp [c1]
 · rw [if_neg c1]
   by_cases c2 : c = y
   · rw [if_pos c2, d1]
     rcases hw with rfl | rfl
     · rw [t1]; simp [c2]
     · rw [t2, d4]; simp [c2]; exact fun h => c1 (c2.trans h)
   · rw [if_neg c2, d2]
     rcases hw with rfl | rfl
     · rw [t1, show (W [45, 32] == W [43, 32]) = false from d3]; simp [c1, c2]
     · rw [t2]; simp [c2]
theorem rest_delta {which : Int} (hw : which = 1 ∨ which = 2) (x y : Nat) : ∀ w : List Nat, ((deltaW w x y).map W).filterMap (restF (tagOf which)) = (w.filter (keepW which x y)).map fun c => W [c]
 | [] => rfl
 | c :: w => by
   have ih := rest_delta hw x y w
   show List.filterMap _ (W (mkD x y c ++ [c]) :: (deltaW w x y).map W) = _
   rw [List.filterMap_cons, restF_delta hw]
   cases h : keepW which x y c with
   | true => simp [List.filter_cons_of_pos h, ih]
   | false => rw [List.filter_cons_of_neg (by simp [h])]; simpa using ih
theorem b_delta (fd : FuncData) (h1 : fd.params = fnArgs (nthS P1 11)) (h2 : fd.defaults = .none) (h3 : fd.kwdefaults = .none) (v u : Value) : bindArgs fd ⟨[v, u], []⟩ = pure [(Str.ofString "word", v), (Str.ofString "pair", u)] := b_any h1 h2 h3 fun _ => rfl
theorem EW.restore2 {al : AdL} {w : List Nat} {x y : Nat} {which : Int} {np1 np2 np3 p1 p2 p3 p4 : Pos} {k : Nat} {args : List Expr} (hgp : p.gp = AllBare) (hB : KB2 p) (hL : KL p al) (hb : b ≠ .handler) (hw : which = 1 ∨ which = 2) (hz : w.length ≤ 900)
   (hs : backTo p1 (starEach [.Call (.Name (Str.ofString "restore") np2) [.Call (.Name (Str.ofString "_law_delta") np3) args [] p3, .Constant (.int which) k p4] [] p2] env) = [(false, eval (.Call (.Name (Str.ofString "restore") np2) [.Call (.Name (Str.ofString "_law_delta") np3) args [] p3, .Constant (.int which) k p4] [] p2) env)])
   (hxL : env.kindOf (Str.ofString "list") = some .globalImplicit) (hxF : env.kindOf (Str.ofString "restore") = some .globalImplicit)
   (hs2 : backTo p2 (starEach [.Call (.Name (Str.ofString "_law_delta") np3) args [] p3, .Constant (.int which) k p4] env) = (false, eval (.Call (.Name (Str.ofString "_law_delta") np3) args [] p3) env) :: backTo p2 (starEach [.Constant (.int which) k p4] env))
   (hs3 : backTo p2 (starEach [.Constant (.int which) k p4] env) = (false, eval (.Constant (.int which) k p4) env) :: backTo p2 (starEach [] env))
   (H : EW p (n + 2) b env (.Call (.Name (Str.ofString "_law_delta") np3) args [] p3) (fun a st1 => a = .lst ((deltaW w x y).map wA) ∧ Q (.lst ((w.filter (keepW which x y)).map cA)) st1) X st) :
   EW p (n + 2) b env (.Call (.Name (Str.ofString "list") np1) [.Call (.Name (Str.ofString "restore") np2) [.Call (.Name (Str.ofString "_law_delta") np3) args [] p3, .Constant (.int which) k p4] [] p2] [] p1) Q X st := by
 refine xEE hL.restore.fn.ex fun fo fd K => ?_
 have hd : (deltaW w x y).map wA = ((deltaW w x y).map W).map .str := by rw [List.map_map]; rfl
 have hlen : (((deltaW w x y).map W).filterMap (restF (tagOf which))).length ≤ 1000 := by
   have := List.length_filterMap_le (restF (tagOf which)) ((deltaW w x y).map W)
   simp [deltaW] at this ⊢; lia
 refine EW.listGenB (bs := [("delta", .lst (((deltaW w x y).map W).map .str)), ("which", .int which)]) (items := ((deltaW w x y).map W).filterMap (restF (tagOf which))) K hgp hb hB.list hL.restore.ns
   (by intro y hy; simp only [List.mem_cons, List.not_mem_nil, or_false] at hy; rcases hy with rfl | rfl <;> rfl) (by decide +kernel) rfl rfl rfl hlen ?_ hs hxL hxF (by decide +kernel)
 refine AW.cons (LW.cons (H.mono (fun a st1 hq => ?_) fun zw zw z => z) hs2) hs2
 revert hq; intro zz2; refine xA zz2 fun zz1 hq => ?_; subst zz1
 rw [hd]
 refine LW.cons (EW.int (LW.nil ⟨bind2' K b_restore, ?_, ?_⟩)) hs3
 · refine restore_go hB.toKB hw (fun z hz => ?_) ?_
   · refine xEA (List.mem_map.mp hz) fun r hr zz3 => ?_; subst zz3
     refine xEA (List.mem_map.mp hr) fun c hc zz4 => ?_; subst zz4
     refine ⟨by rw [W_len, List.length_append, mkD_len]; simp, ?_⟩
     rw [(cut2 (c := c) (mkD_len x y c)).1]
     refine dat_W fun d hd => ?_
     unfold mkD at hd
     split at hd
     · simp at hd; lia
     · split at hd <;> simp at hd <;> lia
   · rcases hw with rfl | rfl
     · exact ⟨rfl, by decide +kernel, by decide +kernel⟩
     · exact ⟨rfl, by decide +kernel, by decide +kernel⟩
 · rw [rest_delta hw, List.map_map]; exact hq
noncomputable def tellOf (vs : Views) : Told := vs.map fun v => (v.1, v.2.filter (fun c => decide (c ∈ v.1)))
theorem keep1 (x y c : Nat) : keepW 1 x y c = decide (c ∈ [x, y]) := by
 unfold keepW; simp
theorem call_delta {al : AdL} {w : List Nat} {x y : Nat} (hL : KL p al) (hb : b ≠ .handler) (hw : Asc w) (hz : w.length ≤ 1000) (h : Q (.lst ((deltaW w x y).map wA)) st) : CW p (n + 1) b env (.ref al.delta) [wA w, wA [x, y]] Q X st := by
 refine xEE hL.delta.fn.ex fun fo fd K => ?_
 refine callFn K (bind2' K b_delta) hb (by intro y hy; simp only [List.mem_cons, List.not_mem_nil, or_false] at hy; rcases hy with rfl | rfl <;> rfl) (by decide +kernel) rfl rfl rfl fun L' q cd => ?_
 exact delta_body hw hz fun st' e => by rw [e]; exact h
structure VOK (vs : Views) : Prop where
 len : vs.length ≤ 10
 each : ∀ v ∈ vs, Asc v.2 ∧ v.2.length = 5 ∧ ∃ x y, v.1 = [x, y] ∧ x < 128 ∧ y < 128
 nodup : (vs.map (·.1)).Nodup
theorem VOK.keys {vs : Views} (h : VOK vs) : (keys (tellOf vs)).Nodup := by
 rw [show Mine.keys (tellOf vs) = vs.map (·.1) from by rw [Mine.keys, tellOf, List.map_map]; rfl]; exact h.nodup
theorem told_comp {L' f : Addr} {q : Str} {cd : Value} {al : AdL} {vs : Views} (hgp : p.gp = AllBare) (hB : KB2 p) (hL : KL p al) (hV : VOK vs) (hv : st.ρ "views" = some (.lst (vs.map viewA)))
   (h : ∀ D ep, st.σ D = none → Q (.ref D) (st.put D (.dict (toldE (tellOf vs)) ep))) :
   EW p (n + 2) .body (mkEnvC (fnScope (nthS P1 21)) L' f q cd) (asgE ((fnBody (nthS P1 21)).getD 1 dumStmt)) Q X st := by
 refine EW.dcomp (cl := []) rfl (ItE.of (EW.var hv ?_))
 refine ⟨_, _, iter_list (.inl rfl), fun zw zw => .inl rfl, by have := hV.len; simp; lia, toldE (tellOf vs), fun C => ?_, fun D ep hD => ?_⟩
 · rw [show toldE (tellOf vs) = vs.map fun v => (W v.1, .lst ((v.2.filter (fun c => decide (c ∈ v.1))).map cA)) from by rw [toldE, tellOf, List.map_map]; rfl]
   refine ElemsD.of vs _ _ fun v hv => (xAAEEAA (hV.each v hv) fun h1 h2 x y h3 h4 h5 => ?_)
   intro st0 h0
   refine AsW.tup (by decide) (AsW.name (AsW.name (asws_nil (EW.var rfl (EW.restore2 (w := v.2) (x := x) (y := y) hgp hB hL (by decide) (.inl rfl) (by lia) rfl rfl rfl rfl rfl (EW.callK hL.delta.ns hL.delta.keep (AW.cons (LW.cons (EW.var rfl (LW.cons (EW.var rfl (LW.nil ?_))))))))))))
   rw [h3]
   refine call_delta hL (by decide) h1 (by lia) ⟨rfl, rfl, ?_, rfl⟩
   rw [show keepW 1 x y = fun c => decide (c ∈ [x, y]) from funext fun c => keep1 x y c]
 · rw [asetAll_fresh _ [] (by rw [List.nil_append]; exact toldE_nodup hV.keys), List.nil_append]
   exact h D ep hD
structure LS (L' D : Addr) (T : Told) (ep : Nat) (σ : Addr → Option AObj) : Prop where
 c1 : ∃ o, σ (L' + 1) = some (.cell o)
 c2 : σ (L' + 2) = some (.cell (some (.ref D)))
 od : σ D = some (.dict (toldE T) ep)
theorem LS.ne {L' D : Addr} {T : Told} {ep : Nat} {σ : Addr → Option AObj} (h : LS L' D T ep σ) : D ≠ L' + 1 ∧ D ≠ L' + 2 := by
 exact xE h.c1 fun o e => ⟨fun z => (by have := h.od; rw [z, e] at this; exact xao (Option.some.inj this) rfl), fun z => (by have := h.od; rw [z, h.c2] at this; exact xao (Option.some.inj this) rfl)⟩
theorem LS.put {L' D : Addr} {T : Told} {ep : Nat} {σ : Addr → Option AObj} {o : Option AV} (h : LS L' D T ep σ) : LS L' D T ep (upd σ (L' + 1) (.cell o)) :=
 ⟨⟨o, upd_same ..⟩, by rw [upd_ne _ _ (by lia)]; exact h.c2, by rw [upd_ne _ _ h.ne.1]; exact h.od⟩
noncomputable abbrev lawEnv (L' f : Addr) (q : Str) (cd : Value) : Env := mkEnvC (fnScope (nthS P1 21)) L' f q cd
theorem law_loop1 {L' f : Addr} {q : Str} {cd : Value} {al : AdL} {vs : Views} {D : Addr} {ep : Nat} {Q : AF → St → Prop} (hgp : p.gp = AllBare) (hB : KB2 p) (hL : KL p al) (hV : VOK vs) (hv : st.ρ "views" = some (.lst (vs.map viewA))) (hS : LS L' D (tellOf vs) ep st.σ)
   (h : ∀ st', (∀ y, y ≠ "one" → st'.ρ y = st.ρ y) → (∃ o, st'.σ = upd st.σ (L' + 1) (.cell o)) → Q .next st') :
   XW p (n + 2) .body (lawEnv L' f q cd) ((fnBody (nthS P1 21)).getD 2 dumStmt) Q X st := by
 refine XW.for rfl (ItE.of (EW.var hv ⟨_, _, iter_list (.inl rfl), (xE hS.c1 fun o0 ho0 => ?_)⟩))
 refine ForW.go (fun d st1 => (∀ y, y ≠ "one" → st1.ρ y = st.ρ y) ∧ ∃ o, st1.σ = upd st.σ (L' + 1) (.cell o)) (fun zw zw zw => .inl rfl) ?_ ?_ ⟨fun zw zw => rfl, o0, ?_⟩
 · intro st1 zz1; refine xA zz1 fun h1 h2 => ?_
   exact SW.nil (h st1 h1 h2)
 · intro d v r st1 e zz2; refine xAE zz2 fun h1 o h2 => ?_
   have hvm : v ∈ vs := by rw [e]; simp
   refine xAAEEA (hV.each v hvm) fun va v5 x y v3 v4 => ?_
   have s1 : LS L' D (tellOf vs) ep st1.σ := by rw [h2]; exact hS.put
   refine xE s1.c1 fun o1 ho1 => (AsW.tup (by decide) (AsW.nameC (ca := L' + 1) (o := o1) ho1 (AsW.name (asws_nil ?_)) rfl))
   have s2 : LS L' D (tellOf vs) ep ((st1.put (L' + 1) (.cell (some (wA v.1)))).set "one" (wA v.2)).σ := s1.put
   have k1 : ((st1.put (L' + 1) (.cell (some (wA v.1)))).set "one" (wA v.2)).σ (L' + 1) = some (.cell (some (wA v.1))) := upd_same ..
   have k2 : ((st1.put (L' + 1) (.cell (some (wA v.1)))).set "one" (wA v.2)).σ = upd st.σ (L' + 1) (.cell (some (wA v.1))) := by
     show upd st1.σ _ _ = _
     rw [h2, upd_upd]
   have k3 : ((st1.put (L' + 1) (.cell (some (wA v.1)))).set "one" (wA v.2)).ρ "one" = some (wA v.2) := rfl
   have k4 : ∀ y, y ≠ "one" → ((st1.put (L' + 1) (.cell (some (wA v.1)))).set "one" (wA v.2)).ρ y = st.ρ y := fun y hy => by
     show upd st1.ρ "one" _ y = _
     rw [upd_ne _ _ hy]; exact h1 y hy
   generalize (st1.put (L' + 1) (.cell (some (wA v.1)))).set "one" (wA v.2) = st2 at s2 k1 k2 k3 k4
   have hch : ∀ P : Nat → Bool, Dat (.lst ((v.2.filter P).map cA)) := fun P => dat_chars fun c hc => va c (List.mem_filter.mp hc).1
   refine SW.cons (XW.iff (TW.cmp (EW.sub (EW.varC s2.c2 (EW.varC k1 (idx_dict s2.od (aget_told (t := (v.1, v.2.filter (fun c => decide (c ∈ v.1)))) hV.keys (List.mem_map.mpr ⟨v, hvm, rfl⟩)) (EW.lcomp (cl := [(Str.ofString "pair", L' + 1)]) rfl ?_)) rfl) rfl))))
   refine ItE.of (EW.var k3 ⟨_, _, iter_str va, fun zw zw => trivial, by simp; lia, v.2.map fun c => if decide (c ∈ v.1) then some (cA c) else none, fun C => ?_, ?_⟩)
   · refine ElemsW.of v.2 _ _ fun c hc => ?_
     intro st0 h0
     refine AsW.name (TW.cmp (EW.var rfl (EW.varC (h0 _ _ k1) (in_strW (truthy_bool ?_)) rfl)))
     cases hP : decide (c ∈ v.1) with
     | true =>
       refine ite_t rfl (tests_nil ?_)
       rw [if_pos rfl, if_pos rfl]
       exact EW.var rfl ⟨rfl, rfl⟩
     | false =>
       simp only [Bool.false_eq_true, if_false]
       exact ⟨trivial, rfl⟩
   rw [filt_map]
   refine ne_data (hch _) (hch _) ?_
   rw [eqv_chars, decide_eq_true rfl]
   refine truthy_bool (ite_f (by decide) (SW.nil ?_))
   refine SW.cons (XW.iff (TW.cmp (EW.restore2 (w := v.2) (x := x) (y := y) hgp hB hL (by decide) (.inr rfl) (by lia) rfl rfl rfl rfl rfl (EW.callK hL.delta.ns hL.delta.keep (AW.cons (LW.cons (EW.var k3 (LW.cons (EW.varC k1 (LW.nil ?_) rfl)))))))))
   have kp := k1
   rw [v3] at kp ⊢
   refine call_delta hL (by decide) va (by lia) ⟨rfl, (EW.lcomp (cl := [(Str.ofString "pair", L' + 1)]) rfl ?_)⟩
   refine ItE.of (EW.var k3 ⟨_, _, iter_str va, fun zw zw => trivial, by simp; lia, v.2.map fun c => if keepW 2 x y c then some (cA c) else none, fun C => ?_, ?_⟩)
   · refine ElemsW.of v.2 _ _ fun c hc => ?_
     intro st0 h0
     have k6 := h0 _ _ kp
     refine AsW.name (TW.or (TW.cmp (EW.var rfl (EW.sub (EW.varC k6 (EW.int (idx_str (c := x) (by decide) rfl (eqW (truthy_bool ?_)))) rfl)))))
     by_cases c1 : c = x
     · have hk : keepW 2 x y c = true := by simp [keepW, c1]
       refine ite_t (by simp [c1]) (ite_t rfl (tests_nil ?_))
       rw [if_pos rfl, if_pos hk]
       exact EW.var rfl ⟨rfl, rfl⟩
     · refine ite_f (by simp [c1]) (TW.or (TW.cmp (EW.var rfl (EW.sub (EW.varC k6 (EW.int (idx_str (c := y) (by decide) rfl (neW (truthy_bool ?_)))) rfl)))))
       by_cases c2 : c = y
       · have hk : keepW 2 x y c = false := by rw [c2] at c1 ⊢; simp [keepW, c1]
         refine ite_f (by simp [c2]) (TW.or_nil ?_)
         rw [hk]
         simp only [Bool.false_eq_true, if_false]
         exact ⟨trivial, rfl⟩
       · have hk : keepW 2 x y c = true := by simp [keepW, c2]
         refine ite_t (by simp [c2]) (ite_t rfl (tests_nil ?_))
         rw [if_pos rfl, if_pos hk]
         exact EW.var rfl ⟨rfl, rfl⟩
   rw [filt_map]
   refine ne_data (hch _) (hch _) ?_
   rw [eqv_chars, decide_eq_true rfl]
   exact truthy_bool (ite_f (by decide) (SW.nil (SW.nil ⟨k4, _, k2⟩)))
 · funext z
   by_cases hz : z = L' + 1
   · subst hz; rw [upd_same]; exact ho0
   · rw [upd_ne _ _ hz]
theorem lt_trans : ∀ a c d : List Nat, Spec.ltCps c a = false → Spec.ltCps d c = false → Spec.ltCps d a = false
 | [], [], [], _, _ => rfl
 | [], [], _ :: _, _, _ => rfl
 | [], _ :: _, [], _, h => by simp [Spec.ltCps] at h
 | [], _ :: _, _ :: _, _, _ => rfl
 | _ :: _, [], _, h, _ => by simp [Spec.ltCps] at h
 | _ :: _, _ :: _, [], _, h => by simp [Spec.ltCps] at h
 | x :: a, y :: c, z :: d, h1, h2 => by
   have ih := lt_trans a c d
   simp only [Spec.ltCps, Bool.or_eq_false_iff, decide_eq_false_iff_not, Bool.and_eq_false_imp, beq_iff_eq] at h1 h2 ⊢
   refine ⟨by lia, fun e => ?_⟩
   have e1 : y = x := by lia
   have e2 : z = y := by lia
   exact ih (h1.2 e1) (h2.2 e2)
theorem lt_antisymm : ∀ a c : List Nat, Spec.ltCps c a = false → Spec.ltCps a c = false → a = c
 | [], [], _, _ => rfl
 | [], _ :: _, _, h => by simp [Spec.ltCps] at h
 | _ :: _, [], h, _ => by simp [Spec.ltCps] at h
 | x :: a, y :: c, h1, h2 => by
   simp only [Spec.ltCps, Bool.or_eq_false_iff, decide_eq_false_iff_not, Bool.and_eq_false_imp, beq_iff_eq] at h1 h2
   have e : x = y := by lia
   subst e
   rw [lt_antisymm a c (h1.2 rfl) (h2.2 rfl)]
theorem rising_pw : ∀ (l : List (List Nat)) (x : List Nat), risingS (W x) (l.map W) = true → (∀ y ∈ l, Spec.ltCps y x = false) ∧ l.Pairwise fun u v => Spec.ltCps v u = false
 | [], _, _ => ⟨(by intro y hy; cases hy), .nil⟩
 | y :: l, x, h => by
   have h' : (!Spec.ltCps y x && risingS (W y) (l.map W)) = true := h
   simp only [Bool.and_eq_true, Bool.not_eq_true'] at h'
   refine xA (rising_pw l y h'.2) fun h1 h2 => ⟨fun z hz => ?_, .cons h1 h2⟩
   cases hz with
   | head _ => exact h'.1
   | tail _ hz => exact lt_trans _ _ _ h'.1 (h1 z hz)
theorem sorted_pw {l : List (List Nat)} (h : sortedS (l.map W) = true) : l.Pairwise fun u v => Spec.ltCps v u = false := by
 cases l with
 | nil => exact .nil
 | cons x l => exact .cons (rising_pw l x h).1 (rising_pw l x h).2
theorem perm_sorted : ∀ {l m : List (List Nat)}, l.Pairwise (fun u v => Spec.ltCps v u = false) → m.Pairwise (fun u v => Spec.ltCps v u = false) → l.Perm m → l = m
 | [], m, _, _, hp => (List.nil_perm.mp hp).symm
 | x :: l, [], _, _, hp => by have := hp.length_eq; simp at this
 | x :: l, y :: m, h1, h2, hp => by
   cases h1 with | cons h1 h1' =>
   cases h2 with | cons h2 h2' =>
   have hx : x ∈ y :: m := hp.mem_iff.mp (.head _)
   have hy : y ∈ x :: l := hp.mem_iff.mpr (.head _)
   have e : x = y := by
     rcases List.mem_cons.mp hx with e | hx
     · exact e
     · rcases List.mem_cons.mp hy with e | hy
       · exact e.symm
       · exact lt_antisymm _ _ (h1 y hy) (h2 x hx)
   subst e
   rw [perm_sorted h1' h2' (hp.cons_inv)]
theorem orders_exch {os os2 ks : List (List Nat)} {w f : List Nat} {P : List Nat → Bool} (h1 : OrdersOf os w) (h2 : ExchOf ks f os2) (h : ∀ x, Reach ks f x ↔ x.Perm w ∧ P x = true) : os.filter P = os2 := by
 refine perm_sorted ((sorted_pw h1.sorted).filter P) (sorted_pw h2.sorted) ((List.perm_ext_iff_of_nodup (List.Sublist.nodup List.filter_sublist h1.nodup) h2.nodup).mpr fun x => ?_)
 rw [List.mem_filter, h1.mem, h2.mem, h]
theorem GF.frame {α γ δ β : Type} {R : Heap → γ → α → Prop} {y : γ} {R' : Heap → δ → β → Prop} {t : α → Sem β} {a : Addr} {o : AObj} {Q : δ → St → Prop} (e : st.σ a = some o) (H : GF p n b env R y R' t (fun y st1 => st1.σ a = none → Q y (st1.put a o)) (fun c st1 => X c (st1.put a o)) (st.del a)) : GF p n b env R y R' t Q X st := by
 refine GF.mk fun A outer h₀ s hid v hA S hv => ?_
 have hO := S.obj a o e
 refine xE hO.1.there fun ob hob => ?_
 have ne : a ≠ env.locals := fun z => by have := S.locS; rw [← z, e] at this; exact xsn this
 have S1 : Sat p env.locals outer h₀ s (st.del a) hid := S.forget (fun zw zw z => z) fun c x z => (era_some z).2
 have u : Unt h₀ env.locals (st.del a) hid a := ⟨hO.2.1, priv_false.mpr ⟨ne, era_same .., hO.2.2⟩⟩
 have ok : ∀ h₂ (s' : Shared), Sub h₀ h₂ → s'.heap.get? a = some ob → OOK p h₂ s'.heap a o := fun h₂ s' k z => (hO.1.same (z.trans hob.symm)).mono₀ k
 refine wpAny_mono (H.run _ _ _ _ _ _ hA (S1.hide u hob) hv) (fun v s' z_ => z_.elim fun h₁ y st' k S' r q => ?_) fun x s' he => he.unhideO (.refl _) hO.2.2 (fun h₂ k z => ok h₂ s' k z) S.out
 have z := S'.unhideO hO.2.2 (ok h₁ s' k (S'.hidd a _ (upd_same ..)).1) S.out
 exact NP.mk z.2 k r (q z.1)
theorem eqv_self : ∀ l : List (List Str), PyData.eqv (toD (.lst (l.map grpA))) (toD (.lst (l.map grpA))) = true := by
 intro l
 show PyData.eqvAll (toDs (l.map grpA)) (toDs (l.map grpA)) = true
 induction l with
 | nil => rfl
 | cons x l ih =>
   have h1 := eqv_strs x
   simp only [List.map_cons, toDs, PyData.eqvAll, ih, Bool.and_true]
   exact h1
theorem dat_lists {l : List (List Str)} (h : ∀ g ∈ l, ∀ x ∈ g, Dat (.str x)) : Dat (.lst (l.map grpA)) := by
 have h1 : ∀ g ∈ l, Dat (grpA g) := fun g hg => dat_strs (h g hg)
 refine ⟨?_, ?_, ?_⟩
 · show noRefs (l.map grpA) = true
   induction l with
   | nil => rfl
   | cons g l ih =>
     have := (h1 g (.head _)).1
     simp only [List.map_cons, noRefs, Bool.and_eq_true]
     exact ⟨this, ih (fun x hx => h x (.tail _ hx)) fun x hx => h1 x (.tail _ hx)⟩
 · show PyData.canLayAll0 (toDs (l.map grpA)) = true
   induction l with
   | nil => rfl
   | cons g l ih =>
     have := (h1 g (.head _)).2.1
     simp only [List.map_cons, toDs, PyData.canLayAll0, Bool.and_eq_true]
     exact ⟨this, ih (fun x hx => h x (.tail _ hx)) fun x hx => h1 x (.tail _ hx)⟩
 · have : PyData.depthAll (toDs (l.map grpA)) ≤ 10 := by
     clear h h1
     have one : ∀ g : List Str, (toD (grpA g)).depth ≤ 10 := fun g => by
       have : PyData.depthAll (toDs (g.map AV.str)) = 0 := by
         induction g with
         | nil => rfl
         | cons x l ih => simp [toDs, toD, PyData.depthAll, PyData.depth, ih]
       show PyData.depthAll (toDs (g.map AV.str)) + 1 ≤ 10
       lia
     induction l with
     | nil => exact Nat.zero_le _
     | cons g l ih =>
       simp only [List.map_cons, toDs, PyData.depthAll]
       have := one g
       exact Nat.max_le.mpr ⟨this, ih⟩
   show PyData.depthAll (toDs (l.map grpA)) + 1 ≤ 50
   lia
theorem in_words (w : List Nat) (l : List (List Nat)) : ((toDs (l.map wA)).any fun y => PyData.eqv y (toD (wA w))) = decide (w ∈ l) := by
 induction l with
 | nil => rfl
 | cons x l ih =>
   simp only [List.map_cons, toDs, List.any_cons, ih, List.mem_cons]
   have : PyData.eqv (toD (wA x)) (toD (wA w)) = decide (x = w) := by
     show (W x == W w) = _
     by_cases h : x = w
     · subst h; simp
     · have : W x ≠ W w := fun e => h (W_inj e)
       simp [h, this]
   rw [this]
   by_cases h : x = w
   · subst h; simp
   · simp [h, Ne.symm h]
noncomputable def foundOf (lg : List (List (List Nat))) : List Nat := (lg.map fun g => g.map fun nd => nd.headD 0).flatten
noncomputable def NodesOK (lg : List (List (List Nat))) : Prop := lg.length ≤ 100 ∧ (foundOf lg).length ≤ 1000 ∧ ∀ g ∈ lg, g.length ≤ 1000 ∧ ∀ nd ∈ g, Asc nd ∧ nd.length = 2
noncomputable def startTS (T : Told) : TS := ⟨sgT T [], readyOf (sgT T []), 0, 0⟩
structure LawFacts (w o : List Nat) (T : Told) : Prop where
 cl : GClosed (sgT T [])
 run : ∀ one, one = w ∨ one = o → RunOK ((named one).map W) (startTS T) ∧ takenRun ((named one).map W) (startTS T) = fitsB one T
 grp : ∃ rds, rds.length ≤ 1000 ∧ GRun rds (sgT T []) (readyOf (sgT T [])) ∧ ∀ gs lg, Groups gs rds → LRun T [] lg → gs = lg.map fun g => g.map W
 nodes : ∀ lg, LRun T [] lg → NodesOK lg
 cnt : ∀ (d r : List Nat), w = d ++ r → ∀ l : List (List Nat), l.Nodup → (∀ x ∈ l, x.Perm d) → l.length < 64
 ring : Cyc (sgT T []) → ∀ x, x.Perm w → fitsB x T = false
 fin : ¬ Cyc (sgT T []) → ∀ lg, LRun T [] lg → (foundOf lg).Perm w ∧ ∀ x, Reach (keys T) (foundOf lg) x ↔ x.Perm w ∧ fitsB x T = true
 each : ∀ c ∈ abcd, ∃ t ∈ T, c ∈ t.1
 ok : ∀ t ∈ T, Asc t.1 ∧ Asc t.2 ∧ t.2.length ≤ 5
 len : T.length ≤ 10
 nodup : (keys T).Nodup
theorem b_taken (fd : FuncData) (h1 : fd.params = fnArgs (nthS P1 19)) (h2 : fd.defaults = .none) (h3 : fd.kwdefaults = .none) (v u : Value) : bindArgs fd ⟨[v, u], []⟩ = pure [(Str.ofString "one", v), (Str.ofString "told", u)] := b_any h1 h2 h3 fun _ => rfl
theorem b_groups (fd : FuncData) (h1 : fd.params = fnArgs (nthS P1 15)) (h2 : fd.defaults = .none) (h3 : fd.kwdefaults = .none) (v : Value) : bindArgs fd ⟨[v], []⟩ = pure [(Str.ofString "sorter", v)] := b_any h1 h2 h3 fun _ => rfl
theorem LS.fr {L' D : Addr} {T : Told} {ep : Nat} {τ : Addr → Option AObj} {o : Option AV} (n1 : D ≠ L' + 1) (n2 : D ≠ L' + 2) : LS L' D T ep (fr3 D (L' + 1) (L' + 2) (.dict (toldE T) ep) (.cell o) (.cell (some (.ref D))) τ) :=
 ⟨⟨o, upd_same ..⟩, by show upd (upd (upd τ D _) (L' + 2) _) (L' + 1) _ (L' + 2) = _; rw [upd_ne _ _ (by lia), upd_same], by show upd (upd (upd τ D _) (L' + 2) _) (L' + 1) _ D = _; rw [upd_ne _ _ n1, upd_ne _ _ n2, upd_same]⟩
theorem upd_era {σ : Addr → Option AObj} {a : Addr} {o : AObj} (h : σ a = some o) : upd (era σ a) a o = σ := by
 funext y
 by_cases hy : y = a
 · subst hy; rw [upd_same, h]
 · rw [upd_ne _ _ hy, era_ne _ hy]
theorem lawc_sorter {al : AdL} {L' D : Addr} {T : Told} {ep : Nat} (hS : KS2 p ad) (hB : KB p) (hL : KL p al) (hb : b ≠ .handler) (hs : LS L' D T ep st.σ) (hn : (keys T).Nodup) (hT : T.length ≤ 10) (hz : ∀ t ∈ T, t.2.length ≤ 5)
   (h : ∀ x τ o, Fresh ad τ x (sgT T []) 50 → τ D = none → τ (L' + 1) = none → τ (L' + 2) = none → Q (.ref x) ⟨st.ρ, fr3 D (L' + 1) (L' + 2) (.dict (toldE T) ep) (.cell o) (.cell (some (.ref D))) τ⟩) : CW p (n + 5) b env (.ref al.sorter) [.ref D] Q X st := by
 refine xE hs.c1 fun o e1 => (xA hs.ne fun m1 m2 => ?_)
 have m3 : L' + 2 ≠ L' + 1 := by lia
 refine GF.frame (a := L' + 1) e1 (GF.frame (a := L' + 2) (o := .cell (some (.ref D))) ((era_ne _ m3).trans hs.c2) (call_sorter (ep := ep) hS hB hL hb (((era_ne _ m2).trans (era_ne _ m1)).trans hs.od) hn hT hz fun x σ' hF hD' k2 k1 => ?_))
 have k1' : upd σ' (L' + 2) (.cell (some (.ref D))) (L' + 1) = none := k1
 rw [upd_ne _ _ m3.symm] at k1'
 have := h x (era σ' D) o hF (era_same ..) ((era_ne _ m1.symm).trans k1') ((era_ne _ m2.symm).trans k2)
 rw [fr3, upd_era hD'] at this
 exact this
theorem lawc_taken {al : AdL} {L' D : Addr} {w o one : List Nat} {T : Told} {ep : Nat} (hS : KS2 p ad) (hC : KC p ad) (hB : KB p) (hL : KL p al) (hb : b ≠ .handler) (hs : LS L' D T ep st.σ) (hF : LawFacts w o T) (hone : one = w ∨ one = o) (ha : Asc one) (h9 : one.length ≤ 9)
   (h : ∀ σ', LS L' D T ep σ' → Q (.bool (fitsB one T)) ⟨st.ρ, σ'⟩) : CW p (n + 6) b env (.ref al.taken) [wA one, .ref D] Q X st := by
 refine xE hs.c1 fun oc e1 => (xA hs.ne fun m1 m2 => ?_)
 have m3 : L' + 2 ≠ L' + 1 := by lia
 refine GF.frame (a := L' + 1) e1 (GF.frame (a := L' + 2) (o := .cell (some (.ref D))) ((era_ne _ m3).trans hs.c2) (xEE hL.taken.fn.ex fun fo fd K => ?_))
 refine callFn K (bind2' K b_taken) hb (by intro y hy; simp only [List.mem_cons, List.not_mem_nil, or_false] at hy; rcases hy with rfl | rfl <;> rfl) (by decide +kernel) rfl rfl rfl fun L2 q2 cd2 => ?_
 have hr := hF.run one hone
 refine taken_body (ep := ep) hS hC hB hL (((era_ne _ m2).trans (era_ne _ m1)).trans hs.od) hF.nodup hF.len (fun t ht => (hF.ok t ht).2.2) ha h9 hF.cl hr.1 fun st' hD' k2 k1 => ?_
 show Q (.bool (takenRun _ (startTS T))) _
 rw [hr.2]
 refine h _ ⟨⟨oc, upd_same ..⟩, ?_, ?_⟩
 · show upd (upd st'.σ (L' + 2) _) (L' + 1) _ (L' + 2) = _
   rw [upd_ne _ _ m3, upd_same]
 · show upd (upd st'.σ (L' + 2) _) (L' + 1) _ D = _
   rw [upd_ne _ _ m1, upd_ne _ _ m2]; exact hD'
noncomputable def lawB : List Stmt := fnBody (nthS P1 21)
theorem eqv_words2 (l m : List (List Nat)) : PyData.eqv (toD (.lst (l.map wA))) (toD (.lst (m.map wA))) = decide (l = m) := by
 have h1 : ∀ l : List (List Nat), l.map wA = (l.map W).map .str := fun l => by rw [List.map_map]; rfl
 rw [h1, h1, eqv_strs2]
 have : (l.map W) = (m.map W) ↔ l = m := by
   constructor
   · intro h
     have h2 := congrArg (List.map ofS) h
     have h3 : ∀ l : List (List Nat), (l.map W).map ofS = l := fun l => by
       rw [List.map_map]
       conv => rhs; rw [← List.map_id l]
       exact List.map_congr_left fun s zw => rfl
     rwa [h3, h3] at h2
   · intro h; rw [h]
 by_cases h : l = m
 · simp [h]
 · rw [decide_eq_false h, decide_eq_false (fun z => h (this.mp z))]
theorem dat_words {l : List (List Nat)} (h : ∀ x ∈ l, Asc x) : Dat (.lst (l.map wA)) := by
 rw [show l.map wA = (l.map W).map .str from by rw [List.map_map]; rfl]
 refine dat_strs fun x hx => ?_
 refine xEA (List.mem_map.mp hx) fun w hw zz1 => ?_; subst zz1
 exact dat_W (h w hw)
theorem asc_perm {x w : List Nat} (h : x.Perm w) (hw : Asc w) : Asc x := fun c hc => hw c (h.mem_iff.mp hc)
theorem law_end {L' f : Addr} {q : Str} {cd : Value} {al : AdL} {w o : List Nat} {T : Told} {D : Addr} {ep : Nat} {lg : List (List (List Nat))} {os : List (List Nat)} {sm : Bool} {Q : AF → St → Prop} (hB : KB2 p) (hL : KL p al) (hF : LawFacts w o T) (hw5 : w.length = 5) (hwa : Asc w)
   (hs : LS L' D T ep st.σ) (h1 : st.ρ "groups" = some (.lst (lg.map gA))) (h2 : st.ρ "fits" = some (.lst ((os.filter fun x => fitsB x T).map wA))) (h3 : st.ρ "smooth" = some (.bool sm)) (hos : OrdersOf os w) (hlg : LRun T [] lg) (hsm : sm = false ↔ Cyc (sgT T []))
   (h : ∀ st', Q (.ret (.bool true)) st') : SW p (n + 6) .body (lawEnv L' f q cd) (lawB.drop 9) Q X st := by
 refine xAA (hF.nodes lg hlg) fun g1 g2 g3 => (SW.cons (XW.assign (EW.callM (EW.str (MW.builtin recv_str F.plainAttrs_str F.slot_str_join F.type_str_join (AW.cons (LW.cons (EW.lcomp2 (cl := []) rfl ?_))))))))
 have hfl : (lg.map fun g => g.map fun nd => cA (nd.headD 0)).flatten = (foundOf lg).map cA := by
   unfold foundOf
   rw [List.map_flatten, List.map_map]
   congr 1
   exact List.map_congr_left fun g zw => by simp [Function.comp]
 refine ItE.of (EW.var h1 ⟨_, _, iter_list (.inl rfl), fun zw zw => .inl rfl, lg.map fun g => g.map fun nd => cA (nd.headD 0), by rw [hfl, List.length_map]; lia, fun C => ?_, ?_⟩)
 · refine Elems2.of lg _ _ fun g hg => (xA (g3 g hg) fun g4 g5 => ?_)
   intro st2 h2
   refine AsW.name (ItE.of (EW.var rfl ⟨_, _, iter_list (.inl rfl), rfl, fun zw zw => .inl rfl, fun zw => True, g.map fun nd => some (cA (nd.headD 0)), trivial, (ElemsW.of g _ _ fun nd hnd => (xA (g5 nd hnd) fun g6 g7 => ?_)), by rw [some_map], by simp⟩))
   intro st3 _ h3
   exact AsW.name (tests_nil (ite_t rfl (EW.sub (EW.var rfl (EW.int (idx_str (c := nd.headD 0) (by decide) (by cases nd with | nil => cases g7 | cons _ _ => rfl) ⟨rfl, rfl, trivial⟩))))))
 rw [hfl]
 refine LW.nil (call_join (l := (foundOf lg).map fun x => [x]) (.inl (by rw [List.map_map]; rfl)) ?_ (by rw [sum_one]; lia))
 rw [flat_one]
 refine SW.cons (XW.ret (EW.cmp (EW.var h2 (EW.ifexp (TW.plain (EW.var h3 (truthy_bool ?_)))))))
 have dfit : Dat (.lst ((os.filter fun x => fitsB x T).map wA)) := dat_words fun x hx => asc_perm ((hos.mem x).mp (List.mem_filter.mp hx).1) hwa
 cases sm with
 | true =>
   refine ite_t rfl ?_
   have hnc : ¬ Cyc (sgT T []) := fun z => by have := hsm.mpr z; exact xtf this
   refine xA (hF.fin hnc lg hlg) fun k1 k2 => ?_
   have kl : (foundOf lg).length = 5 := by rw [k1.length_eq]; exact hw5
   refine EW.callK hL.exch.ns hL.exch.keep (AW.cons (LW.cons (EW.var rfl (LW.cons (EW.varC hs.c2 (LW.nil (call_exch hL.exch.fn hB (by decide) (by lia) (by lia) (fun l hl hp => hF.cnt w [] (by simp) l hl fun x hx => (hp x hx).trans k1) hs.od fun os2 hX => ?_)) rfl)))))
   have e := orders_exch hos hX k2
   refine eq_data dfit (e ▸ dfit) ?_
   rw [eqv_words2, decide_eq_true e]
   exact h _
 | false =>
   refine ite_f (by decide) ?_
   have e : (os.filter fun x => fitsB x T) = [] := List.filter_eq_nil_iff.mpr fun x hx => by
     rw [hF.ring (hsm.mp rfl) x ((hos.mem x).mp hx)]; decide
   refine EW.list (LW.nil ⟨(eq_data dfit (c := .lst []) ⟨rfl, rfl, by show (0 + 1 : Nat) ≤ 50; decide⟩ ?_), by simp⟩)
   rw [eqv_nil, e]
   exact h _
theorem law_loop2 {L' f : Addr} {q : Str} {cd : Value} {al : AdL} {w o : List Nat} {T : Told} {D : Addr} {ep : Nat} {lg : List (List (List Nat))} {os : List (List Nat)} {sm : Bool} {Q : AF → St → Prop} (hK : KS2 p ad) (hC : KC p ad) (hB : KB2 p) (hL : KL p al) (hF : LawFacts w o T) (hw5 : w.length = 5) (hwa : Asc w) (hop : o.Perm w)
   (hs : LS L' D T ep st.σ) (h1 : st.ρ "groups" = some (.lst (lg.map gA))) (h2 : st.ρ "fits" = some (.lst ((os.filter fun x => fitsB x T).map wA))) (h3 : st.ρ "smooth" = some (.bool sm)) (h4 : st.ρ "word" = some (wA w)) (h5 : st.ρ "other" = some (wA o)) (hos : OrdersOf os w) (hlg : LRun T [] lg) (hsm : sm = false ↔ Cyc (sgT T []))
   (h : ∀ st', Q (.ret (.bool true)) st') : SW p (n + 6) .body (lawEnv L' f q cd) (lawB.drop 8) Q X st := by
 refine SW.cons (XW.for rfl (ItE.of (EW.list (LW.cons (EW.var h4 (LW.cons (EW.var h5 (LW.nil ⟨⟨_, _, iter_list (.inl rfl), ?_⟩, by simp⟩))))))))
 show ForW _ _ _ _ _ _ _ _ _ ([w, o].map wA) _ _
 have dfit : Dat (.lst ((os.filter fun x => fitsB x T).map wA)) := dat_words fun x hx => asc_perm ((hos.mem x).mp (List.mem_filter.mp hx).1) hwa
 refine ForW.go (fun d st1 => (∀ y, y ≠ "one" → st1.ρ y = st.ρ y) ∧ LS L' D T ep st1.σ) (fun zw zw zw => .inl rfl) ?_ ?_ ⟨fun zw zw => rfl, hs⟩
 · intro st1 zz2; refine xA zz2 fun g1 g2 => ?_
   refine SW.nil ?_
   exact law_end hB hL hF hw5 hwa g2 ((g1 _ (by decide)).trans h1) ((g1 _ (by decide)).trans h2) ((g1 _ (by decide)).trans h3) hos hlg hsm h
 · intro d one r st1 e zz3; refine xA zz3 fun g1 g2 => ?_
   have hone : one = w ∨ one = o := by
     have : one ∈ [w, o] := by rw [e]; simp
     simpa using this
   have hp : one.Perm w := by rcases hone with rfl | rfl; exact .refl _; exact hop
   refine AsW.name (SW.cons (XW.iff (TW.cmp (EW.callK hL.taken.ns hL.taken.keep (AW.cons (LW.cons (EW.var rfl (LW.cons (EW.varC g2.c2 (LW.nil (lawc_taken (n := n) hK hC hB.toKB hL (by decide) g2 hF hone (asc_perm hp hwa) (by rw [hp.length_eq]; lia) fun σ' hs' => (EW.cmp (EW.var rfl (EW.var (show (st1.set "one" (wA one)).ρ "fits" = _ from (upd_ne (x := "one") (y := "fits") st1.ρ (.str (W one)) (by decide)).trans ((g1 _ (by decide)).trans h2)) (in_list (dat_W (asc_perm hp hwa)) dfit ?_)))))) rfl)))))))))
   rw [in_words]
   have e1 : decide (one ∈ os.filter fun x => fitsB x T) = fitsB one T := by
     cases hfb : fitsB one T with
     | true => exact decide_eq_true (List.mem_filter.mpr ⟨(hos.mem one).mpr hp, hfb⟩)
     | false => exact decide_eq_false fun z => by have := (List.mem_filter.mp z).2; rw [hfb] at this; exact xft this
   rw [e1]
   refine ne_bool (truthy_bool (ite_f (by simp) (SW.nil (SW.nil ⟨fun y hy => ?_, hs'⟩))))
   show upd st1.ρ "one" _ y = _
   rw [upd_ne _ _ hy]; exact g1 y hy
theorem dat_grps {lg : List (List (List Nat))} (h : ∀ g ∈ lg, ∀ nd ∈ g, Asc nd) : Dat (.lst ((lg.map fun g => g.map W).map grpA)) :=
 dat_lists fun g hg x hx => by
   refine xEA (List.mem_map.mp hg) fun g' hg' zz1 => ?_; subst zz1
   refine xEA (List.mem_map.mp hx) fun nd hnd zz2 => ?_; subst zz2
   exact dat_W (h g' hg' nd hnd)
theorem grps_A (lg : List (List (List Nat))) : (lg.map fun g => g.map W).map grpA = lg.map gA := by
 rw [List.map_map]
 refine List.map_congr_left fun g zw => ?_
 show AV.lst ((g.map W).map .str) = AV.lst (g.map wA)
 rw [List.map_map]; rfl
theorem law_mid {L' f : Addr} {q : Str} {cd : Value} {al : AdL} {w o : List Nat} {T : Told} {D : Addr} {ep : Nat} {Q : AF → St → Prop} (hK : KS2 p ad) (hC : KC p ad) (hB : KB2 p) (hL : KL p al) (hF : LawFacts w o T) (hw5 : w.length = 5) (hwa : Asc w) (hop : o.Perm w)
   (hs : LS L' D T ep st.σ) (h4 : st.ρ "word" = some (wA w)) (h5 : st.ρ "other" = some (wA o)) (h : ∀ st', Q (.ret (.bool true)) st') : SW p (n + 6) .body (lawEnv L' f q cd) (lawB.drop 3) Q X st := by
 refine xA hs.ne fun m1 m2 => ?_
 have m3 : L' + 1 ≠ L' + 2 := by lia
 refine SW.cons (XW.assign (EW.callK hL.sorter.ns hL.sorter.keep (AW.cons (LW.cons (EW.varC hs.c2 (LW.nil (lawc_sorter (n := n + 1) hK hB.toKB hL (by decide) hs hF.nodup hF.len (fun t ht => (hF.ok t ht).2.2) fun x τ oc hFr t1 t2 t3 => ?_)) rfl)))))
 obtain ⟨⟨S, hR, hSx, hSr, hSp, hSn, hSg⟩, hFl, hFs⟩ := hFr
 have hSz : S.infos.length ≤ 100 := by
   have := congrArg List.length hSg
   rw [List.length_map] at this
   lia
 refine SW.cons (XW.assign ?_)
 show EW _ _ _ _ _ _ _ ⟨_, fr3 D (L' + 1) (L' + 2) (.dict (toldE T) ep) (.cell oc) (.cell (some (.ref D))) τ⟩
 refine GW.frame3 t1 t2 t3 m1 m2 m3 (EW.callK hL.smooth.ns hL.smooth.keep (AW.cons (LW.cons (EW.var (show _ = some (AV.ref S.x) from (by rw [hSx]; rfl)) (LW.nil (call_smooth (S := S) (n := n + 3) hK hC hB.toKB hL (by decide) hR hSr (by lia) (by rw [hSg]; exact hF.cl) fun σ2 Dr sm hR2 hsm u1 u2 u3 => ?_))))))
 rw [hSg] at hR2 hsm
 refine SW.cons (XW.assign ?_)
 show EW _ _ _ _ _ _ _ ⟨_, fr3 D (L' + 1) (L' + 2) (.dict (toldE T) ep) (.cell oc) (.cell (some (.ref D))) σ2⟩
 refine GW.frame3 u1 u2 u3 m1 m2 m3 (EW.callK hL.groups.ns hL.groups.keep (AW.cons (LW.cons (EW.var (show _ = some (AV.ref S.x) from (by rw [hSx]; rfl)) (LW.nil (xEE hL.groups.fn.ex fun fo fd K => (xEAA hF.grp fun rds hr1 hr2 hr3 => (callFn K (bind1 K b_groups) (by decide) (by intro y hy; simp only [List.mem_cons, List.not_mem_nil, or_false] at hy; subst hy; rfl) (by decide +kernel) rfl rfl rfl fun L2 q2 cd2 => (groups_body (S := { S with ready := some (Dr, readyOf (sgT T [])) }) (n := n + 4) hK hB hR2 rfl (by show GRun rds (S.infos.map Info.nod) _; rw [hSg]; exact hr2) hr1 fun st' gs hG v1 v2 v3 => ?_)))))))))
 have hs2 : LS L' D T ep (fr3 D (L' + 1) (L' + 2) (.dict (toldE T) ep) (.cell oc) (.cell (some (.ref D))) st'.σ) := LS.fr m1 m2
 refine xE ((⟨_, rfl⟩) : ∃ σ3, σ3 = fr3 D (L' + 1) (L' + 2) (.dict (toldE T) ep) (.cell oc) (.cell (some (.ref D))) st'.σ) fun σ3 e3 => ?_
 rw [← e3] at hs2
 show SW _ _ _ _ _ _ _ (St.set ⟨_, fr3 D (L' + 1) (L' + 2) (.dict (toldE T) ep) (.cell oc) (.cell (some (.ref D))) st'.σ⟩ _ _)
 rw [← e3]
 refine SW.cons (XW.iff (TW.cmp (EW.var rfl (EW.callK hL.leading.ns hL.leading.keep (AW.cons (LW.cons (EW.varC hs2.c2 (LW.nil (call_leading (ep := ep) (n := n + 5) hL.leading.fn hB (by decide) hs2.od hF.nodup (fun t ht => ⟨(hF.ok t ht).1, (hF.ok t ht).2.1, by have := (hF.ok t ht).2.2; lia⟩) hF.len hF.each fun lg hlg => ?_)) rfl)))))))
 have hgl := hr3 gs lg hG hlg
 subst hgl
 refine xAA (hF.nodes lg hlg) fun g1 g2 g3 => ?_
 have dg := dat_grps (lg := lg) fun g hg nd hnd => ((g3 g hg).2 nd hnd).1
 have ev := eqv_self (lg.map fun g => g.map W)
 rw [grps_A] at dg ev ⊢
 refine ne_data dg dg ?_
 rw [show retOf (AF.ret (AV.lst (lg.map gA))) = AV.lst (lg.map gA) from rfl, ev]
 refine truthy_bool (ite_f (by decide) (SW.nil (SW.cons (XW.assignLcomp (cl := [(Str.ofString "told", L' + 2)]) rfl (ItE.of (EW.callK hL.orders.ns hL.orders.keep (AW.cons (LW.cons (EW.var (show _ = some (wA w) from h4) (LW.nil (call_orders (n := n + 5) hL.orders.fn hB (by decide) hwa (by lia) hF.cnt fun os hos => ?_)))))))))))
 have hol : os.length < 64 := hF.cnt w [] (by simp) os hos.nodup fun x hx => (hos.mem x).mp hx
 refine ⟨_, _, iter_list (.inl rfl), fun zw zw => .inl rfl, by simp; lia, os.map fun x => if fitsB x T then some (wA x) else none, fun C => ?_, ?_⟩
 · refine ElemsW.of os _ _ fun x hx => ?_
   have hxp := (hos.mem x).mp hx
   intro st0 h0
   refine AsW.name (TW.plain (EW.callK hL.fits.ns hL.fits.keep (AW.cons (LW.cons (EW.var rfl (LW.cons (EW.varC (h0 _ _ hs2.c2) (LW.nil (call_fits (ep := ep) (n := n + 5) hL.fits.fn (by decide) (asc_perm hxp hwa) (by rw [hxp.length_eq]; lia) (h0 _ _ hs2.od) hF.nodup (fun t ht => (hF.ok t ht).2.1) (truthy_bool ?_))) rfl)))))))
   cases hP : fitsB x T with
   | true =>
     refine ite_t rfl (tests_nil ?_)
     rw [if_pos rfl, if_pos rfl]
     exact EW.var rfl ⟨rfl, rfl⟩
   | false =>
     simp only [Bool.false_eq_true, if_false]
     exact ⟨trivial, rfl⟩
 rw [filt_map]
 exact law_loop2 (lg := lg) (os := os) (sm := sm) hK hC hB hL hF hw5 hwa hop hs2 rfl rfl rfl h4 h5 hos hlg hsm h
theorem allKeys : (pairs6 ++ abcd.map fun c => [c, c]).Nodup := by decide
theorem views_ok {w o : List Nat} {vs : Views} (h : ViewsOK w o vs) : VOK vs := by
 refine xEAA h.split fun vs0 zz1 h1 h2 => ?_; subst zz1
 have hk : ((vs0 ++ abcd.map fun c => ([c, c], w)).map (·.1)).Sublist (pairs6 ++ abcd.map fun c => [c, c]) := by
   rw [List.map_append, List.map_map]
   exact h1.append (.refl _)
 have hw : Asc w := fun c hc => abcd_asc c (h.abc c hc)
 refine ⟨?_, fun v hv => ?_, hk.nodup allKeys⟩
 · have := hk.length_le
   simpa [pairs6, abcd] using this
 · have hsnd : v.2 = w ∨ v.2 = o := by
     rcases List.mem_append.mp hv with hv | hv
     · exact h2 v hv
     · refine xEA (List.mem_map.mp hv) fun c _ zz2 => ?_; subst zz2
       exact .inl rfl
   refine ⟨?_, ?_, ?_⟩
   · rcases hsnd with e | e <;> rw [e]
     · exact hw
     · exact asc_perm h.perm hw
   · rcases hsnd with e | e <;> rw [e]
     · exact h.len
     · rw [h.perm.length_eq]; exact h.len
   · have hm : v.1 ∈ pairs6 ++ abcd.map fun c => [c, c] := hk.subset (List.mem_map.mpr ⟨v, hv, rfl⟩)
     have key : ∀ k ∈ pairs6 ++ abcd.map fun c => [c, c], ∃ x y, k = [x, y] ∧ x < 128 ∧ y < 128 := by
       intro k hk
       simp only [pairs6, abcd, List.map_cons, List.map_nil, List.cons_append, List.nil_append, List.mem_cons, List.not_mem_nil, or_false] at hk
       rcases hk with rfl | rfl | rfl | rfl | rfl | rfl | rfl | rfl | rfl | rfl <;> exact ⟨_, _, rfl, by decide, by decide⟩
     exact key _ hm
theorem b_law (fd : FuncData) (h1 : fd.params = fnArgs (nthS P1 21)) (h2 : fd.defaults = .none) (h3 : fd.kwdefaults = .none) (v : Value) : bindArgs fd ⟨[v], []⟩ = pure [(Str.ofString "script", v)] := b_any h1 h2 h3 fun _ => rfl
theorem law_body {L' f : Addr} {q : Str} {cd : Value} {al : AdL} {script : List Int} {Q : AF → St → Prop} (hgp : p.gp = AllBare) (hK : KS2 p ad) (hC : KC p ad) (hB : KB2 p) (hL : KL p al) (hz : script.length ≤ 63) (hP : ∀ w o vs, ViewsOK w o vs → LawFacts w o (tellOf vs))
   (h1 : st.ρ "script" = some (.lst (script.map .int))) (h2 : st.σ (L' + 1) = some (.cell none)) (h3 : st.σ (L' + 2) = some (.cell none)) (h : ∀ st', Q (.ret (.bool true)) st') : SW p (n + 6) .body (lawEnv L' f q cd) lawB Q X st := by
 refine SW.cons (XW.assignT (EW.callK hL.views.ns hL.views.keep (AW.cons (LW.cons (EW.var h1 (LW.nil (call_views (n := n + 5) hL.views.fn hB (by decide) hz fun w o vs hV => ?_)))))))
 have hv := views_ok hV
 refine AsW.tup (by decide) (AsW.name (AsW.name (AsW.name (asws_nil ?_))))
 refine SW.cons (XW.assignC (ca := L' + 2) (told_comp (n := n + 4) (vs := vs) hgp hB hL hv rfl fun D ep hD => ?_))
 have d1 : D ≠ L' + 1 := fun z => by rw [z] at hD; rw [show st.σ (L' + 1) = none from hD] at h2; exact xns h2
 have d2 : D ≠ L' + 2 := fun z => by rw [z] at hD; rw [show st.σ (L' + 2) = none from hD] at h3; exact xns h3
 refine ⟨none, (upd_ne _ _ d2.symm).trans h3, ?_⟩
 refine SW.cons ?_
 have m3 : L' + 1 ≠ L' + 2 := by lia
 refine law_loop1 (D := D) (ep := ep) (n := n + 4) hgp hB hL hv rfl ⟨⟨none, ?_⟩, upd_same .., ?_⟩ fun st' e1 e2 => ?_
 · exact (upd_ne _ _ m3).trans ((upd_ne _ _ d1.symm).trans h2)
 · exact (upd_ne _ _ d2).trans (upd_same ..)
 · skip
   refine law_mid (w := w) (o := o) (T := tellOf vs) (D := D) (ep := ep) hK hC hB hL (hP w o vs hV) hV.len (fun c hc => abcd_asc c (hV.abc c hc)) hV.perm (xE e2 fun oc e2 => ?_) ((e1 _ (by decide)).trans rfl) ((e1 _ (by decide)).trans rfl) h
   rw [e2]
   refine LS.put ⟨⟨none, (upd_ne _ _ m3).trans ((upd_ne _ _ d1.symm).trans h2)⟩, upd_same .., (upd_ne _ _ d2).trans (upd_same ..)⟩
theorem enter_topC {p : PC} {n : Nat} {f : Addr} {params : Arguments} {body : List Stmt} {scope : Scope} {dV : Value} {fo : Obj} {fd : FuncData} {x : String} {av : AV} {v : Value} {s : Shared} {Q : AV → Prop} {R : Result → Shared → Prop}
   (F : FnOK p f params body scope dV fo fd) (hbind : bindArgs fd ⟨[v], []⟩ = pure [(Str.ofString x, v)]) (hbase : p.base = s.heap) (hos : s.os = p.os) (hgens : p.gp s.gens) (hv : VR s.heap av v) (hn : n ≤ 20)
   (hloc : scope.names.lookup (Str.ofString x) = some .local) (hnd : (scope.names.map (·.1)).Nodup) (hco : scope.isCoroutine = false) (hgen : scope.isGenerator = false) (hk : scope.kind = .function)
   (H : ∀ L' q cd, SW p n .body (mkEnvC scope L' f q cd) body (fun fl _ => Q (retOf fl)) (fun _ _ => False) ⟨fun y => if scope.names.lookup (Str.ofString y) = some .local then lookS [(x, av)] (Str.ofString y) else none, cellσ [(x, av)] (PySem.cellsFrom (L' + 1) scope.names []) fun _ => none⟩)
   (hR : ∀ (s' : Shared) (h₁ : Heap) (a : AV) (u : Value), Sub s.heap s'.heap → s'.os = s.os → p.gp s'.gens → VR h₁ a u → Q a → R (.ok (.ret u)) s') :
   codeAny (model p.prog p.w) callerA (.call (.ref f) ⟨[v], []⟩) R s := by
 have hold : s.heap.get? f = some fo := hbase ▸ p.hK _ _ F.look
 have hcode : s.heap.CodeRec fd.code fd.qualname := hbase ▸ codeRec_of p.hK F.code
 refine codeAny_call_function (fd := fd) (by decide) hold F.data (by rw [F.scope]; exact hco) (by rw [F.scope]; exact hgen) F.body hcode ?_
 rw [hbind]
 refine wpAny_pure ?_
 rw [F.clos]
 refine wpAny_newFunctionEnv_cells (by rw [F.scope]; exact hk) (fun y hy => ?_) fun envC henv s₂ IC => ⟨?_, codeAny_func ?_⟩
 · simp only [List.mem_singleton] at hy
   subst hy
   rw [F.scope]; exact .inl hloc
 · have hl : s.heap.NoLimit := hbase ▸ p.hT.nolimit
   exact hl.keeps IC.toInCall.keep
 refine xEE IC.toInCall.same fun h' tk e2 => ?_
 have henv2 : envC = mkEnvC scope s.heap.objs.size f (fd.qualname ++ Str.ofString ".<locals>.") fd.code := by
   rw [henv]
   unfold newEnv mkEnvC mkEnv
   rw [F.scope, F.glob, F.bi]
 rw [henv2] at IC ⊢
 have kOf : ∀ x, (mkEnvC scope s.heap.objs.size f (fd.qualname ++ Str.ofString ".<locals>.") fd.code).kindOf x = scope.names.lookup x := fun _ => rfl
 have hw : VRs s.heap ([(x, av)].map (·.2)) [v] := .cons hv .nil
 have SE : Sat p s.heap.objs.size [] s.heap s₂ ⟨fun y => if scope.names.lookup (Str.ofString y) = some .local then lookS [(x, av)] (Str.ofString y) else none, fun _ => none⟩ (fun _ => none) := by
   refine ⟨by rw [hbase]; exact .refl _, IC.toInCall.keep, ⟨_, IC.toInCall.ns, fun y a e => ?_⟩, Heap.get?_none_of_le (Nat.le_refl _), rfl, rfl, fun a o e => (by exact xns e), fun a c e => (by exact xns e), fun e he => (by cases he), by rw [e2]; exact hos, by rw [e2]; exact hgens⟩
   replace e : (if scope.names.lookup (Str.ofString y) = some .local then lookS [(x, av)] (Str.ofString y) else none) = some a := e
   by_cases z : scope.names.lookup (Str.ofString y) = some .local
   · rw [if_pos z] at e
     rw [bindL_eq (by rw [kOf]; exact z), Option.or_none]
     have q := zipS (Str.ofString y) [(x, av)] [v] hw
     rw [e] at q
     replace q : SlotR s.heap (some a) ([(Str.ofString x, v)].reverse.lookup (Str.ofString y)) := q
     cases q2 : [(Str.ofString x, v)].reverse.lookup (Str.ofString y) with
     | none => rw [q2] at q; exact q.elim
     | some v => rw [q2] at q; exact ⟨v, rfl, q⟩
   · rw [if_neg z] at e; exact xns e
 have SC := (Sat.cells (bs := [(x, av)]) (cm := bindC (mkEnvC scope s.heap.objs.size f (fd.qualname ++ Str.ofString ".<locals>.") fd.code).kindOf [(Str.ofString x, v)] fun _ => none) (PySem.cellsFrom (s.heap.objs.size + 1) scope.names []) IC.apart (fun nm c hm => by
   have hlt : s.heap.objs.size < c := IC.above nm c hm
   have hcn : scope.names.lookup nm = some .cell := by
     rcases cells_mem _ _ _ hm with q | q
     · exact lookup_mem hnd q
     · cases q
   refine ⟨?_, ⟨Heap.get?_none_of_le (Nat.le_of_lt hlt), priv_false.mpr ⟨Nat.ne_of_gt hlt, rfl, rfl⟩⟩, ?_⟩
   · refine IC.cell nm c (lookup_mem ?_ hm)
     show ((PySem.cellsFrom (s.heap.objs.size + 1) scope.names []).map (·.1)).Nodup
     rw [cells_names, List.map_nil, List.append_nil]
     exact (List.reverse_perm _).nodup_iff.mpr (hnd.sublist (List.Sublist.map _ (List.filter_sublist ..)))
   · rw [bindC_eq (by rw [kOf]; exact hcn), Option.or_none]
     exact zipS nm [(x, av)] [v] hw) SE).1
 have hA' : AOK n .body (callerA.deeper (mkEnvC scope s.heap.objs.size f (fd.qualname ++ Str.ofString ".<locals>.") fd.code)) (mkEnvC scope s.heap.objs.size f (fd.qualname ++ Str.ofString ".<locals>.") fd.code) [] := by
   refine ⟨rfl, fun _ => rfl, ?_, ?_, hk, fun _ => rfl, rfl, rfl⟩
   · have : callerA.depth ≤ 400 := by decide
     show callerA.depth + 1 + 20 * n ≤ 900
     lia
   · show 4 + 3 + 100 * n ≤ 9000
     lia
 refine wpAny_mono (H _ _ _ _ _ _ _ _ hA' SC) (fun fl s₂ z_ => z_.elim fun h₂ af st₂ k₂ S₂ r q => ?_) fun e s₂ he => he.never.elim
 have hsub : Sub s.heap s₂.heap := k₂.trans S₂.sub
 have hos2 : s₂.os = s.os := S₂.os.trans hos.symm
 cases r with
 | next => exact hR _ h₂ _ _ hsub hos2 S₂.gens .none q
 | brk => exact hR _ h₂ _ _ hsub hos2 S₂.gens .none q
 | cont => exact hR _ h₂ _ _ hsub hos2 S₂.gens .none q
 | ret hv => exact hR _ h₂ _ _ hsub hos2 S₂.gens hv q
theorem law_call {p : PC} {s : Shared} {f : Addr} {v : Value} {script : List Int} {ad : Ad} {al : AdL} {R : Result → Shared → Prop} (hB : KB2 p) (hS : KS2 p ad) (hC : KC p ad) (hL : KL p al) (hF : FnK p f (nthS P1 21) .none) (hgp : p.gp = AllBare) (hbase : p.base = s.heap) (hos : s.os = p.os) (hg : s.gens = #[])
   (hv : VR s.heap (.lst (script.map .int)) v) (hn : script.length ≤ 63) (hP : ∀ w o vs, ViewsOK w o vs → LawFacts w o (tellOf vs))
   (hR : ∀ s', Sub s.heap s'.heap → s'.os = s.os → AllBare s'.gens → R (.ok (.ret (.bool true))) s') : codeAny (model p.prog p.w) callerA (.call (.ref f) ⟨[v], []⟩) R s := by
 refine xEE hF.ex fun fo fd F => ?_
 refine enter_topC (n := 6) (x := "script") (av := .lst (script.map .int)) (Q := fun v => v = .bool true) F (b_law fd F.params F.dflt F.kwd _) hbase hos (by rw [hgp, hg]; intro y hy; simp at hy) hv (by decide) rfl (by decide +kernel) rfl rfl rfl (fun L' q cd => ?_) fun s' h₁ av u h1 h2 h3 h4 h5 => ?_
 · refine law_body (n := 0) hgp hS hC hB hL hn hP rfl ?_ ?_ fun st' => rfl
   · show upd (upd (fun _ => none) (L' + 1) _) (L' + 2) _ (L' + 1) = _
     rw [upd_ne _ _ (by lia), upd_same]; rfl
   · show upd (upd (fun _ => none) (L' + 1) _) (L' + 2) _ (L' + 2) = _
     rw [upd_same]; rfl
 · subst h5
   apply VR.onBool h4
   exact hR s' h1 h2 (hgp ▸ h3)
theorem swap_cons (b : Nat) (w : List Nat) (k a c : Nat) : swapAt (b :: w) (k + 1) a c = b :: swapAt w k a c := by simp [swapAt]
theorem Reach.cons {ks : List (List Nat)} {u v : List Nat} (b : Nat) (h : Reach ks u v) : Reach ks (b :: u) (b :: v) := by
 induction h with
 | refl => exact .refl
 | @step w k a c _ ha hc hn ih =>
   have := Reach.step (k := k + 1) ih (by simpa using ha) (by simpa using hc) hn
   rwa [swap_cons] at this
theorem Reach.trans {ks : List (List Nat)} {u v x : List Nat} (h : Reach ks u v) (h2 : Reach ks v x) : Reach ks u x := by
 induction h2 with
 | refl => exact h
 | step _ ha hc hn ih => exact ih.step ha hc hn
theorem reach_front {ks : List (List Nat)} {c : Nat} {q : List Nat} : ∀ p : List Nat, (∀ b ∈ p, pairL b c ∉ ks) → Reach ks (p ++ c :: q) (c :: (p ++ q))
 | [], _ => .refl
 | b :: p, h => by
   have h1 := (reach_front (q := q) p fun x hx => h x (.tail _ hx)).cons b
   have h2 := Reach.step (k := 0) (a := b) (c := c) h1 rfl rfl (h b (.head _))
   exact h2
noncomputable def fitsP (x : List Nat) (T : Told) : Prop := ∀ t ∈ T, x.filter (fun c => decide (c ∈ t.1)) = t.2
theorem fitsB_iff {x : List Nat} {T : Told} : fitsB x T = true ↔ fitsP x T := by simp [fitsB, fitsP, List.all_eq_true]
noncomputable def Leads (T : Told) (c : Nat) : Prop := ∀ t ∈ T, c ∈ t.1 → ∃ r, t.2 = c :: r
theorem ldB_iff {T : Told} {c : Nat} : ldB T c = true ↔ Leads T c := by
 have h0 : ldB T c = true ↔ T.filter (badFor c) = [] := by simp [ldB]
 rw [h0, List.filter_eq_nil_iff]
 refine forall_congr' fun t => forall_congr' fun _ => ?_
 have : (¬ badFor c t = true) ↔ (c ∈ t.1 → t.2.take 1 = [c]) := by simp [badFor]
 rw [this]
 refine forall_congr' fun _ => ?_
 cases t.2 with
 | nil => simp
 | cons a r => simp
noncomputable def RowsIn (T : Told) : Prop := ∀ t ∈ T, ∀ c ∈ t.2, c ∈ t.1
theorem stepRow_sub {L s : List Nat} {c : Nat} (h : c ∈ stepRow L s) : c ∈ s := by
 cases s with
 | nil => exact h
 | cons a r =>
   have : c ∈ (if decide (a ∈ L) then r else a :: r) := h
   split at this
   · exact .tail _ this
   · exact this
theorem RowsIn.step {T : Told} (h : RowsIn T) (L : List Nat) : RowsIn (stepT T L) := fun t ht c hc => by
 refine xEA (List.mem_map.mp ht) fun u hu zz1 => ?_; subst zz1
 exact h u hu c (stepRow_sub hc)
theorem fits_cons {T : Told} (hR : RowsIn T) (c : Nat) (x : List Nat) : fitsP (c :: x) T ↔ Leads T c ∧ fitsP x (stepT T [c]) := by
 constructor
 · intro h
   refine ⟨fun t ht hc => ⟨x.filter (fun c => decide (c ∈ t.1)), ?_⟩, fun t ht => ?_⟩
   · have := h t ht
     rw [List.filter_cons_of_pos (by simpa using hc)] at this
     exact this.symm
   · refine xEA (List.mem_map.mp ht) fun u hu zz2 => ?_; subst zz2
     have := h u hu
     show x.filter (fun d => decide (d ∈ u.1)) = stepRow [c] u.2
     by_cases hc : c ∈ u.1
     · rw [List.filter_cons_of_pos (by simpa using hc)] at this
       rw [← this]; simp [stepRow]
     · rw [List.filter_cons_of_neg (by simpa using hc)] at this
       rw [this]
       cases e : u.2 with
       | nil => rfl
       | cons a r =>
         have : a ∈ u.1 := hR u hu a (by rw [e]; exact .head _)
         have hac : a ≠ c := fun z => hc (z ▸ this)
         simp [stepRow, hac]
 · intro zz3 t ht; refine xA zz3 fun h1 h2 => ?_
   have h3 : x.filter (fun d => decide (d ∈ t.1)) = stepRow [c] t.2 := h2 _ (List.mem_map.mpr ⟨t, ht, rfl⟩)
   by_cases hc : c ∈ t.1
   · refine xE (h1 t ht hc) fun r hr => ?_
     rw [List.filter_cons_of_pos (by simpa using hc), h3, hr]; simp [stepRow]
   · rw [List.filter_cons_of_neg (by simpa using hc), h3]
     cases e : t.2 with
     | nil => rfl
     | cons a r =>
       have : a ∈ t.1 := hR t ht a (by rw [e]; exact .head _)
       have hac : a ≠ c := fun z => hc (z ▸ this)
       simp [stepRow, hac]
structure KeysOK (ks : List (List Nat)) : Prop where
 pair : ∀ k ∈ ks, ∃ x y, k = [x, y] ∧ x ≤ y
 self : ∀ c ∈ abcd, [c, c] ∈ ks
theorem pair_mem {k : List Nat} {a c : Nat} (hk : ∃ x y, k = [x, y] ∧ x ≤ y) (ha : a ∈ k) (hc : c ∈ k) (hne : a ≠ c) : pairL a c = k := by
 refine xEEA hk fun x y zz4 hxy => ?_; subst zz4
 simp only [List.mem_cons, List.not_mem_nil, or_false] at ha hc
 unfold pairL
 rcases ha with rfl | rfl <;> rcases hc with rfl | rfl
 · exact (hne rfl).elim
 · rw [if_neg (by lia)]
 · rw [if_pos (by lia)]
 · exact (hne rfl).elim
theorem reach_fits {T : Told} (hK : KeysOK (keys T)) {u x : List Nat} (hu : ∀ c ∈ u, c ∈ abcd) (hf : fitsP u T) (h : Reach (keys T) u x) : fitsP x T := by
 induction h with
 | refl => exact hf
 | @step w k a c hr ha hc hn ih =>
   intro t ht
   rw [← ih t ht]
   have hkey : t.1 ∈ keys T := List.mem_map.mpr ⟨t, ht, rfl⟩
   have hac : ¬ (a ∈ t.1 ∧ c ∈ t.1) := fun zy1 => xA zy1 fun h1 h2 => by
     by_cases e : a = c
     · subst e
       have : a ∈ abcd := hu a ((hr.perm).mem_iff.mp (List.mem_of_getElem? ha))
       exact hn (by unfold pairL; rw [if_neg (by lia)]; exact hK.self a this)
     · exact hn (by rw [pair_mem (hK.pair _ hkey) h1 h2 e]; exact hkey)
   refine xE (List.getElem?_eq_some_iff.mp ha) fun k1 e1 => (xE (List.getElem?_eq_some_iff.mp hc) fun k2 e2 => ?_)
   have d1 : w.drop k = a :: w.drop (k + 1) := by rw [List.drop_eq_getElem_cons k1, e1]
   have d2 : w.drop (k + 1) = c :: w.drop (k + 2) := by rw [List.drop_eq_getElem_cons k2, e2]
   have e : w = w.take k ++ [a] ++ [c] ++ w.drop (k + 2) := by
     conv => lhs; rw [← List.take_append_drop k w, d1, d2]
     simp
   conv => rhs; rw [e]
   unfold swapAt
   simp only [List.filter_append, List.filter_cons, List.filter_nil]
   by_cases h1 : a ∈ t.1
   · have h2 : c ∉ t.1 := fun z => hac ⟨h1, z⟩
     simp [h1, h2]
   · by_cases h2 : c ∈ t.1 <;> simp [h1, h2]
theorem first_split {c : Nat} : ∀ u : List Nat, c ∈ u → ∃ p q, u = p ++ c :: q ∧ c ∉ p
 | [], h => by cases h
 | a :: u, h => by
   by_cases e : a = c
   · exact ⟨[], u, by rw [e]; rfl, by simp⟩
   · exact xEEA (first_split u (by rcases List.mem_cons.mp h with z | z; exact (e z.symm).elim; exact z)) fun p q h1 h2 => (⟨a :: p, q, by rw [h1]; rfl, by simp [Ne.symm e, h2]⟩)
theorem fits_reach {ks : List (List Nat)} (hK : KeysOK ks) : ∀ (v u : List Nat) (T : Told), keys T = ks → RowsIn T → (∀ c ∈ v, c ∈ abcd) → u.Perm v → fitsP u T → fitsP v T → Reach ks u v
 | [], u, T, _, _, _, hp, _, _ => by rw [hp.eq_nil]; exact .refl
 | c :: v, u, T, hk, hR, hv, hp, hu, hf => by
   refine xA ((fits_cons hR c v).mp hf) fun hl hf' => ?_
   have hcu : c ∈ u := hp.mem_iff.mpr (.head _)
   refine xEEA (first_split u hcu) fun p q zz5 hcp => ?_; subst zz5
   have hfree : ∀ b ∈ p, pairL b c ∉ ks := fun b hb hm => by
     rw [← hk] at hm
     refine xEA (List.mem_map.mp hm) fun t ht e => ?_
     have hb1 : b ∈ t.1 := by rw [show t.1 = pairL b c from e]; unfold pairL; split <;> simp
     have hc1 : c ∈ t.1 := by rw [show t.1 = pairL b c from e]; unfold pairL; split <;> simp
     refine xE (hl t ht hc1) fun r hr => ?_
     have h1 := hu t ht
     rw [List.filter_append, hr] at h1
     have hbf : b ∈ p.filter (fun d => decide (d ∈ t.1)) := List.mem_filter.mpr ⟨hb, by simpa using hb1⟩
     cases e2 : p.filter (fun d => decide (d ∈ t.1)) with
     | nil => rw [e2] at hbf; cases hbf
     | cons a r2 =>
       rw [e2] at h1
       have : a = c := by injection h1
       exact hcp (this ▸ (List.mem_filter.mp (show a ∈ p.filter (fun d => decide (d ∈ t.1)) by rw [e2]; exact .head _)).1)
   have hr := reach_front (q := q) p hfree
   have hua : ∀ d ∈ p ++ c :: q, d ∈ abcd := fun d hd => hv d (hp.mem_iff.mp hd)
   have hf2 := reach_fits (by rw [hk]; exact hK) hua hu (by rw [hk]; exact hr)
   have hf3 := ((fits_cons hR c (p ++ q)).mp hf2).2
   have hp2 : (p ++ q).Perm v := (List.perm_middle.symm.trans hp).cons_inv
   exact hr.trans ((fits_reach hK v (p ++ q) (stepT T [c]) (by rw [keys_step, hk]) (hR.step _) (fun d hd => hv d (.tail _ hd)) hp2 hf3 hf').cons c)
noncomputable def mc : Nat → Nat → Nat → Nat → Nat → Nat
 | 0, _, _, _, _ => 1
 | n + 1, a, b, c, d => (if a = 0 then 0 else mc n (a - 1) b c d) + (if b = 0 then 0 else mc n a (b - 1) c d) + (if c = 0 then 0 else mc n a b (c - 1) d) + (if d = 0 then 0 else mc n a b c (d - 1))
noncomputable def Cnts (n a b c d : Nat) (x : List Nat) : Prop := x.length = n ∧ (∀ y ∈ x, y ∈ abcd) ∧ x.count 97 = a ∧ x.count 98 = b ∧ x.count 99 = c ∧ x.count 100 = d
noncomputable def tails (h : Nat) (l : List (List Nat)) : List (List Nat) := (l.filter fun x => decide (x.head? = some h)).map List.tail
theorem tails_mem {h : Nat} {l : List (List Nat)} {y : List Nat} (hy : y ∈ tails h l) : h :: y ∈ l := by
 refine xEA (List.mem_map.mp hy) fun x hx zz1 => ?_; subst zz1
 refine xA (List.mem_filter.mp hx) fun h1 h2 => ?_
 have h3 : x.head? = some h := by simpa using h2
 cases x with
 | nil => exact xns h3
 | cons a x => cases Option.some.inj h3; exact h1
theorem tails_nodup {h : Nat} {l : List (List Nat)} (hl : l.Nodup) : (tails h l).Nodup := by
 have h1 : (l.filter fun x => decide (x.head? = some h)).Nodup := List.Sublist.nodup List.filter_sublist hl
 unfold tails
 rw [List.nodup_iff_pairwise_ne, List.pairwise_map]
 refine List.Pairwise.imp_of_mem ?_ (List.nodup_iff_pairwise_ne.mp h1)
 intro x y hx hy hne e
 have hx1 : x.head? = some h := by simpa using (List.mem_filter.mp hx).2
 have hy1 : y.head? = some h := by simpa using (List.mem_filter.mp hy).2
 cases x with
 | nil => exact xns hx1
 | cons a x =>
   cases y with
   | nil => exact xns hy1
   | cons b y =>
     cases Option.some.inj hx1; cases Option.some.inj hy1
     exact hne (by rw [show x = y from e])
theorem heads_sum : ∀ l : List (List Nat), (∀ x ∈ l, ∃ h ∈ abcd, x.head? = some h) → l.length = (tails 97 l).length + (tails 98 l).length + (tails 99 l).length + (tails 100 l).length
 | [], _ => rfl
 | x :: l, hl => by
   have ih := heads_sum l fun y hy => hl y (.tail _ hy)
   refine xEA (hl x (.head _)) fun h hh e => ?_
   have key : ∀ g : Nat, (tails g (x :: l)).length = (if h = g then 1 else 0) + (tails g l).length := fun g => by
     unfold tails
     rw [List.filter_cons, e]
     by_cases z : h = g
     · simp [z]; lia
     · simp [z]
   rw [key, key, key, key, List.length_cons, ih]
   simp only [abcd, List.mem_cons, List.not_mem_nil, or_false] at hh
   rcases hh with rfl | rfl | rfl | rfl <;> simp <;> lia
theorem words_le : ∀ (n a b c d : Nat) (l : List (List Nat)), l.Nodup → (∀ x ∈ l, Cnts n a b c d x) → l.length ≤ mc n a b c d
 | 0, a, b, c, d, l, hl, hc => by
   cases l with
   | nil => exact Nat.zero_le _
   | cons x l =>
     cases l with
     | nil => exact Nat.le_refl _
     | cons y l =>
       have h1 := List.length_eq_zero_iff.mp (hc x (.head _)).1
       have h2 := List.length_eq_zero_iff.mp (hc y (.tail _ (.head _))).1
       have := (List.nodup_cons.mp hl).1
       exact (this (by rw [h1, h2]; exact .head _)).elim
 | n + 1, a, b, c, d, l, hl, hc => by
   have hs := heads_sum l fun x hx => by
     refine xAA (hc x hx) fun h1 h2 zw => ?_
     cases x with
     | nil => cases h1
     | cons y x => exact ⟨y, h2 y (.head _), rfl⟩
   have t1 : (tails 97 l).length ≤ if a = 0 then 0 else mc n (a - 1) b c d := by
     by_cases z : a = 0
     · rw [if_pos z]
       cases e : tails 97 l with
       | nil => exact Nat.le_refl _
       | cons y r =>
         have := hc _ (tails_mem (h := 97) (y := y) (by rw [e]; exact .head _))
         refine xAAA this fun zw zw h3 zw => ?_
         simp at h3; lia
     · rw [if_neg z]
       refine words_le n _ _ _ _ _ (tails_nodup hl) fun y hy => (xAAAAA (hc _ (tails_mem hy)) fun h1 h2 h3 h4 h5 h6 => ?_)
       refine ⟨by simpa using h1, fun x hx => h2 x (.tail _ hx), ?_, ?_, ?_, ?_⟩ <;> simp at h3 h4 h5 h6 <;> lia
   have t2 : (tails 98 l).length ≤ if b = 0 then 0 else mc n a (b - 1) c d := by
     by_cases z : b = 0
     · rw [if_pos z]
       cases e : tails 98 l with
       | nil => exact Nat.le_refl _
       | cons y r =>
         have := hc _ (tails_mem (h := 98) (y := y) (by rw [e]; exact .head _))
         refine xAAAA this fun zw zw zw h3 zw => ?_
         simp at h3; lia
     · rw [if_neg z]
       refine words_le n _ _ _ _ _ (tails_nodup hl) fun y hy => (xAAAAA (hc _ (tails_mem hy)) fun h1 h2 h3 h4 h5 h6 => ?_)
       refine ⟨by simpa using h1, fun x hx => h2 x (.tail _ hx), ?_, ?_, ?_, ?_⟩ <;> simp at h3 h4 h5 h6 <;> lia
   have t3 : (tails 99 l).length ≤ if c = 0 then 0 else mc n a b (c - 1) d := by
     by_cases z : c = 0
     · rw [if_pos z]
       cases e : tails 99 l with
       | nil => exact Nat.le_refl _
       | cons y r =>
         have := hc _ (tails_mem (h := 99) (y := y) (by rw [e]; exact .head _))
         refine xAAAAA this fun zw zw zw zw h3 zw => ?_
         simp at h3; lia
     · rw [if_neg z]
       refine words_le n _ _ _ _ _ (tails_nodup hl) fun y hy => (xAAAAA (hc _ (tails_mem hy)) fun h1 h2 h3 h4 h5 h6 => ?_)
       refine ⟨by simpa using h1, fun x hx => h2 x (.tail _ hx), ?_, ?_, ?_, ?_⟩ <;> simp at h3 h4 h5 h6 <;> lia
   have t4 : (tails 100 l).length ≤ if d = 0 then 0 else mc n a b c (d - 1) := by
     by_cases z : d = 0
     · rw [if_pos z]
       cases e : tails 100 l with
       | nil => exact Nat.le_refl _
       | cons y r =>
         have := hc _ (tails_mem (h := 100) (y := y) (by rw [e]; exact .head _))
         refine xAAAAA this fun zw zw zw zw zw h3 => ?_
         simp at h3; lia
     · rw [if_neg z]
       refine words_le n _ _ _ _ _ (tails_nodup hl) fun y hy => (xAAAAA (hc _ (tails_mem hy)) fun h1 h2 h3 h4 h5 h6 => ?_)
       refine ⟨by simpa using h1, fun x hx => h2 x (.tail _ hx), ?_, ?_, ?_, ?_⟩ <;> simp at h3 h4 h5 h6 <;> lia
   rw [hs]
   show _ ≤ _ + _ + _ + _
   lia
theorem mc_lt : ∀ a, a < 6 → ∀ b, b < 6 → ∀ c, c < 6 → ∀ d, d < 6 → a + b + c + d < 6 → mc (a + b + c + d) a b c d < 64 := by decide +kernel
theorem count4 : ∀ x : List Nat, (∀ y ∈ x, y ∈ abcd) → x.length = x.count 97 + x.count 98 + x.count 99 + x.count 100
 | [], _ => rfl
 | y :: x, h => by
   have ih := count4 x fun z hz => h z (.tail _ hz)
   have hy := h y (.head _)
   simp only [abcd, List.mem_cons, List.not_mem_nil, or_false] at hy
   rcases hy with rfl | rfl | rfl | rfl <;> simp <;> lia
theorem orders_lt {d : List Nat} (h5 : d.length ≤ 5) (ha : ∀ y ∈ d, y ∈ abcd) {l : List (List Nat)} (hl : l.Nodup) (hp : ∀ x ∈ l, x.Perm d) : l.length < 64 := by
 have h4 := count4 d ha
 have h1 := words_le d.length (d.count 97) (d.count 98) (d.count 99) (d.count 100) l hl fun x hx => by
   have hq := hp x hx
   exact ⟨hq.length_eq, fun y hy => ha y (hq.mem_iff.mp hy), hq.count_eq _, hq.count_eq _, hq.count_eq _, hq.count_eq _⟩
 have h2 := mc_lt (d.count 97) (by lia) (d.count 98) (by lia) (d.count 99) (by lia) (d.count 100) (by lia) (by lia)
 rw [← h4] at h2
 lia
noncomputable def nm (c i : Nat) : Str := W [c, 48 + i]
theorem nm_inj {c i d j : Nat} (h : nm c i = nm d j) : c = d ∧ i = j := by
 have := W_inj h
 simp at this
 exact ⟨this.1, by lia⟩
noncomputable def inc (m : Nat → Nat) (c : Nat) : Nat → Nat := fun d => if d = c then m d + 1 else m d
noncomputable def nodesFrom : (Nat → Nat) → List Nat → List Str
 | _, [] => []
 | m, c :: x => nm c (m c) :: nodesFrom (inc m c) x
theorem inc_count (pre : List Nat) (c : Nat) : inc (fun d => pre.count d) c = fun d => (pre ++ [c]).count d := by
 funext d
 unfold inc
 rw [List.count_append]
 by_cases h : d = c
 · subst h; simp
 · rw [if_neg h]
   have : [c].count d = 0 := List.count_eq_zero_of_not_mem (by simpa using h)
   rw [this]; rfl
theorem named_aux : ∀ (l pre : List Nat), ((l.zipIdx pre.length).map fun x => W [x.1, 48 + ((pre ++ l).take x.2).count x.1]) = nodesFrom (fun d => pre.count d) l
 | [], _ => rfl
 | c :: l, pre => by
   have ih := named_aux l (pre ++ [c])
   rw [List.length_append, List.length_singleton] at ih
   rw [List.zipIdx_cons, List.map_cons, nodesFrom, inc_count, ← ih]
   congr 1
   · show W [c, 48 + ((pre ++ c :: l).take pre.length).count c] = _
     rw [List.take_left]; rfl
   · rw [List.append_assoc]; rfl
theorem named_nodes (l : List Nat) : (named l).map W = nodesFrom (fun _ => 0) l := by
 have := named_aux l []
 rw [named, List.map_map]
 exact this
theorem nodes_mem : ∀ (l : List Nat) (m : Nat → Nat) (x : Str), x ∈ nodesFrom m l ↔ ∃ p c r, l = p ++ c :: r ∧ x = nm c (m c + p.count c)
 | [], m, x => by
   constructor
   · intro h; cases h
   · intro zz1; refine xEEEA zz1 fun p c r h _ => ?_; simp at h
 | c :: l, m, x => by
   rw [nodesFrom, List.mem_cons, nodes_mem l]
   constructor
   · rintro (rfl | ⟨p, d, r, rfl, rfl⟩)
     · exact ⟨[], c, l, rfl, by rfl⟩
     · refine ⟨c :: p, d, r, rfl, ?_⟩
       unfold inc
       by_cases h : d = c
       · subst h; simp; congr 1; lia
       · rw [if_neg h, List.count_cons_of_ne (Ne.symm h)]
   · intro zz2; refine xEEEA zz2 fun p d r h zz3 => ?_; subst zz3
     cases p with
     | nil => simp at h; refine xA h fun zz4 zz5 => ?_; subst zz4; subst zz5; exact .inl (by rfl)
     | cons e p =>
       simp at h
       refine xA h fun zz6 zz7 => ?_; subst zz6; subst zz7
       refine .inr ⟨p, d, r, rfl, ?_⟩
       unfold inc
       by_cases h : d = c
       · subst h; simp; congr 1; lia
       · rw [if_neg h, List.count_cons_of_ne (Ne.symm h)]
theorem chain_mem : ∀ (l : List Nat) (m : Nat → Nat) (q : Option Str) (a y : Str), (a, y) ∈ chainE q (nodesFrom m l) ↔ (q = some a ∧ ∃ c r, l = c :: r ∧ y = nm c (m c)) ∨ ∃ p b c r, l = p ++ b :: c :: r ∧ a = nm b (m b + p.count b) ∧ y = nm c (m c + (p ++ [b]).count c)
 | [], m, q, a, y => by
   constructor
   · intro h; cases h
   · rintro (⟨_, c, r, h, _⟩ | ⟨p, b, c, r, h, _⟩)
     · exact xnc h
     · simp at h
 | c :: l, m, q, a, y => by
   have ih := chain_mem l (inc m c) (some (nm c (m c))) a y
   rw [nodesFrom, chainE, List.mem_append, ih]
   have hq : (a, y) ∈ (q.toList.map fun b => (b, nm c (m c))) ↔ q = some a ∧ y = nm c (m c) := by
     cases q with
     | none => simp
     | some b => simp [eq_comm]
   have hinc : ∀ (p : List Nat) (d : Nat), inc m c d + p.count d = m d + (c :: p).count d := fun p d => by
     unfold inc
     by_cases h : d = c
     · subst h; simp; lia
     · rw [if_neg h, List.count_cons_of_ne (Ne.symm h)]
   rw [hq]
   constructor
   · rintro (⟨h1, h2⟩ | (⟨h1, d, r, rfl, h2⟩ | ⟨p, b, d, r, rfl, h1, h2⟩))
     · exact .inl ⟨h1, c, l, rfl, h2⟩
     · refine .inr ⟨[], c, d, r, rfl, ?_, ?_⟩
       · rw [← Option.some.inj h1]; simp
       · have := hinc [] d
         rw [h2]; simp at this ⊢; rw [this]
     · refine .inr ⟨c :: p, b, d, r, rfl, ?_, ?_⟩
       · rw [h1, hinc]
       · rw [h2, hinc]; rfl
   · rintro (⟨h1, d, r, h, h2⟩ | ⟨p, b, d, r, h, h1, h2⟩)
     · cases h
       exact .inl ⟨h1, h2⟩
     · cases p with
       | nil =>
         simp at h
         refine xA h fun zz8 zz9 => ?_; subst zz8; subst zz9
         refine .inr (.inl ⟨?_, d, r, rfl, ?_⟩)
         · rw [h1]; simp
         · have := hinc [] d
           rw [h2]; simp at this ⊢; rw [this]
       | cons e p =>
         simp at h
         refine xA h fun zz10 zz11 => ?_; subst zz10; subst zz11
         refine .inr (.inr ⟨p, b, d, r, rfl, ?_, ?_⟩)
         · rw [h1, hinc]
         · rw [h2, hinc]; rfl
noncomputable def EOf (T : Told) : Edg := T.flatMap fun t => chainE none ((named t.2).map W)
theorem edge_iff {T : Told} {a y : Str} : (a, y) ∈ EOf T ↔ ∃ t ∈ T, ∃ p b c r, t.2 = p ++ b :: c :: r ∧ a = nm b (p.count b) ∧ y = nm c ((p ++ [b]).count c) := by
 unfold EOf
 rw [List.mem_flatMap]
 refine exists_congr fun t => and_congr_right fun _ => ?_
 rw [named_nodes, chain_mem]
 constructor
 · rintro (⟨h, _⟩ | ⟨p, b, c, r, h1, h2, h3⟩)
   · exact xns h
   · exact ⟨p, b, c, r, h1, by simpa using h2, by rw [h3]; congr 1; lia⟩
 · intro zz12; refine xEEEEAA zz12 fun p b c r h1 h2 h3 => ?_
   exact .inr ⟨p, b, c, r, h1, by simpa using h2, by rw [h3]; congr 1; lia⟩
theorem sg_gE : ∀ (T : Told) (N : List Str) (E : Edg), EdgesIn N E → N.Nodup → ∃ N', sgT T (gE N E) = gE N' (E ++ EOf T) ∧ EdgesIn N' (E ++ EOf T) ∧ N'.Nodup ∧ ∀ x, x ∈ N' ↔ x ∈ N ∨ ∃ t ∈ T, x ∈ (named t.2).map W
 | [], N, E, h, hn => ⟨N, by simp [sgT, EOf], by simpa [EOf] using h, hn, fun x => by simp⟩
 | t :: T, N, E, h, hn => by
   refine xEAAA (chain_gE ((named t.2).map W) N E none h (by intro a ha; exact xns ha) hn) fun N1 e1 h1 n1 m1 => (xEAAA (sg_gE T N1 _ h1 n1) fun N2 e2 h2 n2 m2 => ?_)
   have hE : E ++ chainE none ((named t.2).map W) ++ EOf T = E ++ EOf (t :: T) := by simp [EOf]
   refine ⟨N2, ?_, hE ▸ h2, n2, fun x => ?_⟩
   · show sgT T (chainAdd (gE N E) none ((named t.2).map W)) = _
     rw [e1, e2, hE]
   · rw [m2, m1]
     constructor
     · rintro ((h | h) | ⟨u, hu, h⟩)
       · exact .inl h
       · exact .inr ⟨t, .head _, h⟩
       · exact .inr ⟨u, .tail _ hu, h⟩
     · rintro (h | ⟨u, hu, h⟩)
       · exact .inl (.inl h)
       · cases hu with
         | head _ => exact .inl (.inr h)
         | tail _ hu => exact .inr ⟨u, hu, h⟩
theorem sg_start (T : Told) : ∃ N, sgT T [] = gE N (EOf T) ∧ EdgesIn N (EOf T) ∧ N.Nodup ∧ ∀ x, x ∈ N ↔ ∃ t ∈ T, x ∈ (named t.2).map W := by
 refine xEAAA (sg_gE T [] [] (by intro e he; cases he) .nil) fun N e h1 h2 h3 => ?_
 rw [List.nil_append] at e h1
 exact ⟨N, e, h1, h2, fun x => by rw [h3]; simp⟩
structure WF (T : Told) (M : Nat → Nat) : Prop where
 nodup : (keys T).Nodup
 rows : RowsIn T
 cnt : ∀ t ∈ T, ∀ c ∈ t.1, t.2.count c = M c
 kok : KeysOK (keys T)
 abc : ∀ t ∈ T, ∀ c ∈ t.1, c ∈ abcd
theorem WF.self {T : Told} {M : Nat → Nat} (h : WF T M) {c : Nat} (hc : c ∈ abcd) : ∃ t ∈ T, t.1 = [c, c] := by
 exact xEA (List.mem_map.mp (h.kok.self c hc)) fun t ht e => ⟨t, ht, e⟩
structure Stg (T T' : Told) (m : Nat → Nat) : Prop where
 ks : keys T' = keys T
 fwd : ∀ t ∈ T, ∃ s pre, (t.1, s) ∈ T' ∧ t.2 = pre ++ s ∧ ∀ c ∈ t.1, pre.count c = m c
 bwd : ∀ t' ∈ T', ∃ t ∈ T, ∃ pre, t'.1 = t.1 ∧ t.2 = pre ++ t'.2 ∧ ∀ c ∈ t.1, pre.count c = m c
theorem Stg.start (T : Told) : Stg T T fun _ => 0 := ⟨rfl, fun t ht => ⟨t.2, [], ht, rfl, fun _ _ => rfl⟩, fun t ht => ⟨t, ht, [], rfl, rfl, fun _ _ => rfl⟩⟩
noncomputable def incL (m : Nat → Nat) (L : List Nat) : Nat → Nat := fun d => if d ∈ L then m d + 1 else m d
theorem incL_one (m : Nat → Nat) (c : Nat) : incL m [c] = inc m c := by funext d; simp [incL, inc]
theorem row_pop {row pre s k : List Nat} {m : Nat → Nat} {L : List Nat} (h1 : row = pre ++ s) (h2 : ∀ c ∈ k, pre.count c = m c) (h3 : ∀ c ∈ L, c ∈ k → ∃ r, s = c :: r) (h4 : ∀ c ∈ s, c ∈ k) : ∃ pre', row = pre' ++ stepRow L s ∧ ∀ c ∈ k, pre'.count c = incL m L c := by
 cases s with
 | nil =>
   refine ⟨pre, h1, fun c hc => ?_⟩
   unfold incL
   rw [if_neg fun z => by refine xE (h3 c z hc) fun r e => ?_; exact xnc e]
   exact h2 c hc
 | cons a r =>
   by_cases ha : a ∈ L
   · refine ⟨pre ++ [a], by rw [h1]; simp [stepRow, ha], fun c hc => ?_⟩
     unfold incL
     rw [List.count_append, h2 c hc]
     by_cases e : c = a
     · subst e; rw [if_pos ha]; simp
     · rw [if_neg fun z => by refine xE (h3 c z hc) fun r2 e2 => ?_; cases e2; exact e rfl, List.count_eq_zero_of_not_mem (by simpa using e)]; rfl
   · refine ⟨pre, by rw [h1]; simp [stepRow, ha], fun c hc => ?_⟩
     unfold incL
     rw [if_neg fun z => by refine xE (h3 c z hc) fun r2 e2 => ?_; cases e2; exact ha z]
     exact h2 c hc
theorem Stg.rowsIn {T T' : Told} {m M : Nat → Nat} (hW : WF T M) (h : Stg T T' m) : RowsIn T' := fun t' ht c hc => by
 refine xEAEAA (h.bwd t' ht) fun t h1 pre e1 e2 _ => ?_
 rw [e1]
 exact hW.rows t h1 c (by rw [e2]; exact List.mem_append_right _ hc)
theorem Stg.pop {T T' : Told} {m M : Nat → Nat} {L : List Nat} (hW : WF T M) (h : Stg T T' m) (hL : ∀ c ∈ L, Leads T' c) : Stg T (stepT T' L) (incL m L) := by
 have hR := h.rowsIn hW
 refine ⟨(keys_step T' L).trans h.ks, fun t ht => ?_, fun t' ht => ?_⟩
 · exact xEEAA (h.fwd t ht) fun s pre h1 h2 h3 => (xEA (row_pop (k := t.1) (L := L) h2 h3 (fun c hc hk => hL c hc _ h1 hk) (fun c hc => hR _ h1 c hc)) fun pre' e1 e2 => ⟨stepRow L s, pre', List.mem_map.mpr ⟨(t.1, s), h1, rfl⟩, e1, e2⟩)
 · refine xEA (List.mem_map.mp ht) fun u hu zz1 => ?_; subst zz1
   exact xEAEAA (h.bwd u hu) fun t h1 pre e1 e2 e3 => (xEA (row_pop (k := t.1) (L := L) e2 e3 (fun c hc hk => hL c hc _ hu (e1 ▸ hk)) (fun c hc => e1 ▸ hR _ hu c hc)) fun pre' e4 e5 => ⟨t, h1, pre', e1, e4, e5⟩)
theorem Stg.le {T T' : Told} {m M : Nat → Nat} (hW : WF T M) (h : Stg T T' m) {c : Nat} (hc : c ∈ abcd) : m c ≤ M c ∧ (Leads T' c → m c < M c) := by
 refine xEA (hW.self hc) fun t ht e => (xEEAA (h.fwd t ht) fun s pre h1 h2 h3 => ?_)
 have hck : c ∈ t.1 := by rw [e]; exact .head _
 have h4 := hW.cnt t ht c hck
 rw [h2, List.count_append, h3 c hck] at h4
 refine ⟨by lia, fun hl => (xE (hl _ h1 hck) fun r hr => ?_)⟩
 rw [show s = c :: r from hr, List.count_cons_self] at h4
 lia
theorem split_at {c : Nat} : ∀ (row : List Nat) (i : Nat), i < row.count c → ∃ p q, row = p ++ c :: q ∧ p.count c = i
 | [], i, h => by simp at h
 | a :: row, i, h => by
   by_cases e : a = c
   · subst e
     cases i with
     | zero => exact ⟨[], row, rfl, rfl⟩
     | succ i =>
       rw [List.count_cons_self] at h
       exact xEEA (split_at (c := a) row i (by lia)) fun p q h1 h2 => (⟨a :: p, q, by rw [h1]; rfl, by rw [List.count_cons_self, h2]⟩)
   · rw [List.count_cons_of_ne e] at h
     exact xEEA (split_at row i h) fun p q h1 h2 => (⟨a :: p, q, by rw [h1]; rfl, by rw [List.count_cons_of_ne e, h2]⟩)
theorem split_pre {c : Nat} {p q pre s : List Nat} (h : p ++ c :: q = pre ++ s) (hc : pre.count c ≤ p.count c) : ∃ u, p = pre ++ u ∧ s = u ++ c :: q := by
 rcases List.append_eq_append_iff.mp h with ⟨a, e1, e2⟩ | ⟨a, e1, e2⟩
 · cases a with
   | nil => exact ⟨[], by rw [e1]; simp, by rw [List.nil_append] at e2 ⊢; exact e2.symm⟩
   | cons x a =>
     have : x = c := by injection e2 with h1 _; exact h1.symm
     subst this
     rw [e1, List.count_append, List.count_cons_self] at hc
     lia
 · exact ⟨a, e1, e2⟩
noncomputable def DN (m : Nat → Nat) (dn : List Str) : Prop := ∀ c i, c ∈ abcd → (nm c i ∈ dn ↔ i < m c)
theorem pend_iff {T T' : Told} {m M : Nat → Nat} {dn : List Str} (hW : WF T M) (h : Stg T T' m) (hd : DN m dn) {c i : Nat} (hc : c ∈ abcd) (hi : i < M c) (hm : m c ≤ i) : pend (EOf T) dn (nm c i) = 0 ↔ i = m c ∧ Leads T' c := by
 rw [pend_zero]
 constructor
 · intro hp
   have key : ∀ t ∈ T, c ∈ t.1 → ∀ s pre, t.2 = pre ++ s → (∀ d ∈ t.1, pre.count d = m d) → i = m c ∧ ∃ r, s = c :: r := fun t ht hck s pre e1 e2 => by
     refine xEEA (split_at t.2 i (by rw [hW.cnt t ht c hck]; exact hi)) fun p q h1 h2 => (xEA (split_pre (h1.symm.trans e1) (by rw [e2 c hck, h2]; exact hm)) fun u h3 h4 => ?_)
     rcases List.eq_nil_or_concat u with rfl | ⟨u', b, rfl⟩
     · rw [List.append_nil] at h3
       exact ⟨by rw [← h2, h3, e2 c hck], q, h4⟩
     · rw [List.concat_eq_append] at h3 h4
       have hb : b ∈ t.1 := hW.rows t ht b (by rw [e1, h4]; simp)
       have hed : (nm b ((pre ++ u').count b), nm c i) ∈ EOf T := edge_iff.mpr ⟨t, ht, pre ++ u', b, c, q, by rw [h1, h3]; simp, rfl, by rw [← h2, h3]; simp⟩
       have hlt := (hd b _ (hW.abc t ht b hb)).mp (hp _ hed)
       rw [List.count_append, e2 b hb] at hlt
       lia
   exact xEA (hW.self hc) fun t0 ht0 e0 => (xEEAA (h.fwd t0 ht0) fun s0 pre0 g1 g2 g3 => ⟨(key t0 ht0 (by rw [e0]; exact .head _) s0 pre0 g2 g3).1, fun t' ht' hck => (xEAEAA (h.bwd t' ht') fun t ht pre f1 f2 f3 => ((key t ht (f1 ▸ hck) t'.2 pre f2 f3).2))⟩)
 · intro zz2 a hed; refine xA zz2 fun zz3 hl => ?_; subst zz3
   refine xEAEEEEAA (edge_iff.mp hed) fun t ht p b d r e1 e2 e3 => ?_
   refine xA (nm_inj e3) fun zz4 e4 => ?_; subst zz4
   have hck : c ∈ t.1 := hW.rows t ht c (by rw [e1]; simp)
   have hb : b ∈ t.1 := hW.rows t ht b (by rw [e1]; simp)
   refine xEEAA (h.fwd t ht) fun s pre g1 g2 g3 => (xE (hl _ g1 hck) fun r2 hr2 => ?_)
   replace hr2 : s = c :: r2 := hr2
   rw [hr2] at g2
   have e5 : (p ++ [b]) ++ c :: r = pre ++ c :: r2 := by rw [← g2, e1]; simp
   refine xEA (split_pre e5 (by rw [g3 c hck, e4]; exact Nat.le_refl _)) fun u u1 u2 => ?_
   have hu : u = [] := by
     cases u with
     | nil => rfl
     | cons x u =>
       have : x = c := by injection u2 with h1 _; exact h1.symm
       subst this
       have h6 := e4
       rw [u1, List.count_append, g3 x hck, List.count_cons_self] at h6
       lia
   rw [hu, List.append_nil] at u1
   rw [e2]
   refine (hd b _ (hW.abc t ht b hb)).mpr ?_
   rw [← g3 b hb, ← u1, List.count_append]
   simp
theorem DN.step {m : Nat → Nat} {dn : List Str} (h : DN m dn) (c : Nat) : DN (inc m c) (nm c (m c) :: dn) := fun d i hd => by
 rw [List.mem_cons, h d i hd]
 unfold inc
 by_cases e : d = c
 · subst e
   rw [if_pos rfl]
   constructor
   · rintro (h1 | h1)
     · have := (nm_inj h1).2; lia
     · lia
   · intro h1
     by_cases h2 : i = m d
     · exact .inl (by rw [h2])
     · exact .inr (by lia)
 · rw [if_neg e]
   constructor
   · rintro (h1 | h1)
     · exact (e (nm_inj h1).1).elim
     · exact h1
   · exact .inr
theorem DN.start : DN (fun _ => 0) [] := fun c i _ => by simp
theorem Stg.empty {T T' : Told} {m M : Nat → Nat} (hW : WF T M) (h : Stg T T' m) (he : ∀ c ∈ abcd, m c = M c) {t' : List Nat × List Nat} (ht : t' ∈ T') : t'.2 = [] := by
 refine xEAEAA (h.bwd t' ht) fun t h1 pre e1 e2 e3 => ?_
 cases e : t'.2 with
 | nil => rfl
 | cons a r =>
   have ha : a ∈ t.1 := e1 ▸ h.rowsIn hW t' ht a (by rw [e]; exact .head _)
   have h4 := hW.cnt t h1 a ha
   rw [e2, e, List.count_append, e3 a ha, he a (hW.abc t h1 a ha), List.count_cons_self] at h4
   lia
theorem seq_fits {T : Told} {M : Nat → Nat} (hW : WF T M) : ∀ (x : List Nat) (T' : Told) (m : Nat → Nat) (dn : List Str), Stg T T' m → DN m dn → (∀ c ∈ x, c ∈ abcd) → (∀ c ∈ abcd, m c + x.count c = M c) → (SeqOK (EOf T) dn (nodesFrom m x) ↔ fitsP x T')
 | [], T', m, dn, hS, hd, _, hm => by
   exact ⟨fun _ t ht => ((hS.empty hW (fun c hc => by simpa using hm c hc) ht).symm), fun _ => trivial⟩
 | c :: x, T', m, dn, hS, hd, hx, hm => by
   have hc := hx c (.head _)
   have hmc := hm c hc
   rw [List.count_cons_self] at hmc
   rw [nodesFrom, SeqOK, ← pend_zero, pend_iff hW hS hd hc (by lia) (Nat.le_refl _), fits_cons (hS.rowsIn hW)]
   constructor
   · intro zz1; refine xA zz1 fun zz2 h2 => ?_; obtain ⟨-, hl⟩ := zz2
     have hp := hS.pop (L := [c]) hW fun d hd => by rw [List.mem_singleton.mp hd]; exact hl
     rw [incL_one] at hp
     refine ⟨hl, (seq_fits hW x _ _ _ hp (hd.step c) (fun d hd => hx d (.tail _ hd)) fun d hd => ?_).mp h2⟩
     have := hm d hd
     unfold inc
     by_cases e : d = c
     · subst e; rw [if_pos rfl]; lia
     · rw [if_neg e]; rw [List.count_cons_of_ne (Ne.symm e)] at this; exact this
   · intro zz3; refine xA zz3 fun hl h2 => ?_
     have hp := hS.pop (L := [c]) hW fun d hd => by rw [List.mem_singleton.mp hd]; exact hl
     rw [incL_one] at hp
     refine ⟨⟨rfl, hl⟩, (seq_fits hW x _ _ _ hp (hd.step c) (fun d hd => hx d (.tail _ hd)) fun d hd => ?_).mpr h2⟩
     have := hm d hd
     unfold inc
     by_cases e : d = c
     · subst e; rw [if_pos rfl]; lia
     · rw [if_neg e]; rw [List.count_cons_of_ne (Ne.symm e)] at this; exact this
theorem succ_gE {N : List Str} {E : Edg} (hE : EdgesIn N E) : succOf (gE N E) = outE E := by
 funext x
 by_cases hx : x ∈ N
 · exact gr_ss hx
 · unfold succOf gE
   rw [gr_find, if_neg hx, (inE_none hE hx).2]; rfl
theorem seq_topo {N : List Str} {E : Edg} (hE : EdgesIn N E) : ∀ (ord dn : List Str), SeqOK E dn ord → (∀ a y, (a, y) ∈ E → y ∈ dn → a ∈ dn) → ord.Nodup → (∀ x ∈ ord, x ∉ dn) → (∀ x ∈ N, x ∈ dn ∨ x ∈ ord) → Topo (outE E) ord
 | [], _, _, _, _, _, _ => trivial
 | t :: r, dn, hs, hc, hn, hd, ha => by
   refine xA hs fun h1 h2 => ?_
   rw [List.nodup_cons] at hn
   have ht := hd t (.head _)
   refine ⟨fun y hy => ?_, seq_topo hE r (t :: dn) h2 (fun a y he hy => ?_) hn.2 (fun x hx => ?_) fun x hx => ?_⟩
   · have he := outE_mem.mp hy
     rcases ha y (hE _ he).2 with h | h
     · exact (ht (hc _ _ he h)).elim
     · rcases List.mem_cons.mp h with rfl | h
       · exact (ht (h1 _ he)).elim
       · exact h
   · rcases List.mem_cons.mp hy with rfl | hy
     · exact .tail _ (h1 a he)
     · exact .tail _ (hc a y he hy)
   · intro z
     rcases List.mem_cons.mp z with rfl | z
     · exact hn.1 hx
     · exact hd x (.tail _ hx) z
   · rcases ha x hx with h | h
     · exact .inl (.tail _ h)
     · rcases List.mem_cons.mp h with rfl | h
       · exact .inl (.head _)
       · exact .inr h
theorem seq_acyclic {N ord : List Str} {E : Edg} (hE : EdgesIn N E) (h : SeqOK E [] ord) (hn : ord.Nodup) (ha : ∀ x ∈ N, x ∈ ord) : ¬ Cyc (gE N E) := by
 refine topo_acyclic (fin := ord) ?_ fun z hz => ?_
 · rw [succ_gE hE]
   exact seq_topo hE ord [] h (fun a y _ hy => by cases hy) hn (fun x _ z => by cases z) fun x hx => .inr (ha x hx)
 · refine xEA (List.mem_map.mp hz) fun x hx zz4 => ?_; subst zz4
   exact ha x hx
theorem source_of {N : List Str} {E : Edg} (hE : EdgesIn N E) (h : ¬ Cyc (gE N E)) : ∀ (k : Nat) (S : List Str), S.length ≤ k → S ≠ [] → ∃ x ∈ S, ∀ y ∈ S, (y, x) ∉ E
 | 0, S, hk, hne => (hne (List.length_eq_zero_iff.mp (Nat.le_zero.mp hk))).elim
 | k + 1, S, hk, hne => by
   refine xEA ((by
     refine Classical.byContradiction fun hno => h ⟨fun x => x ∈ S, List.exists_mem_of_ne_nil S hne, fun x hx => (Classical.byContradiction fun hno2 => hno ⟨x, hx, fun y hy he => hno2 ⟨y, ?_, hy⟩⟩)⟩
     rw [succ_gE hE]; exact outE_mem.mpr he) : ∃ z ∈ S, ∀ y ∈ S, (z, y) ∉ E) fun z hz hzs => ?_
   by_cases hS : S.filter (fun x => decide (x ≠ z)) = []
   · refine ⟨z, hz, fun y hy he => ?_⟩
     have : y = z := by
       refine Classical.byContradiction fun hyz => ?_
       have := List.filter_eq_nil_iff.mp hS y hy
       simp [hyz] at this
     rw [this] at he
     exact hzs z hz he
   · have hlt : (S.filter fun x => decide (x ≠ z)).length < S.length := by
       refine Nat.lt_of_le_of_ne (List.length_filter_le _ _) fun e => ?_
       have := List.length_filter_eq_length_iff.mp e z hz
       simp at this
     refine xEA (source_of hE h k _ (by lia) hS) fun x hx hxs => ?_
     have hxS := (List.mem_filter.mp hx).1
     refine ⟨x, hxS, fun y hy he => ?_⟩
     by_cases hyz : y = z
     · rw [hyz] at he; exact hzs x hxS he
     · exact hxs y (List.mem_filter.mpr ⟨hy, by simpa using hyz⟩) he
theorem nodes_nodup : ∀ (x : List Nat) (m : Nat → Nat), (nodesFrom m x).Nodup
 | [], _ => .nil
 | c :: x, m => by
   rw [nodesFrom, List.nodup_cons]
   refine ⟨fun h => (xEEEA ((nodes_mem x _ _).mp h) fun p d r _ e => ?_), nodes_nodup x _⟩
   refine xA (nm_inj e) fun zz1 e2 => ?_; subst zz1
   unfold inc at e2
   rw [if_pos rfl] at e2
   lia
theorem node_in {x : List Nat} {y : Str} : y ∈ nodesFrom (fun _ => 0) x ↔ ∃ c i, c ∈ x ∧ i < x.count c ∧ y = nm c i := by
 rw [nodes_mem]
 constructor
 · intro zz2; refine xEEEA zz2 fun p c r zz3 zz4 => ?_; subst zz3; subst zz4
   exact ⟨c, p.count c, by simp, by simp, by simp⟩
 · intro zz5; refine xEEAA zz5 fun c i _ hi zz6 => ?_; subst zz6
   exact xEEA (split_at x i hi) fun p q h1 h2 => ⟨p, c, q, h1, by simp [h2]⟩
theorem node_N {T : Told} {M : Nat → Nat} (hW : WF T M) {y : Str} : (∃ t ∈ T, y ∈ (named t.2).map W) ↔ ∃ c i, c ∈ abcd ∧ i < M c ∧ y = nm c i := by
 constructor
 · intro zz7; refine xEA zz7 fun t ht hy => ?_
   rw [named_nodes, node_in] at hy
   refine xEEAA hy fun c i h1 h2 h3 => ?_
   have hc := hW.rows t ht c h1
   exact ⟨c, i, hW.abc t ht c hc, by rw [← hW.cnt t ht c hc]; exact h2, h3⟩
 · intro zz8; refine xEEAA zz8 fun c i h1 h2 h3 => ?_
   refine xEA (hW.self h1) fun t ht e => ?_
   have hc : c ∈ t.1 := by rw [e]; exact .head _
   rw [← hW.cnt t ht c hc] at h2
   refine ⟨t, ht, ?_⟩
   rw [named_nodes, node_in]
   exact ⟨c, i, List.count_pos_iff.mp (by lia), h2, h3⟩
theorem nm_rep : ∀ c ∈ abcd, ∀ i, i < 10 → (reprText (nm c i)).length ≤ 1000 := by decide +kernel
theorem run_fits {T : Told} {M : Nat → Nat} {N : List Str} {one : List Nat} (hW : WF T M) (hE : EdgesIn N (EOf T)) (hN : N.Nodup) (hm : ∀ x, x ∈ N ↔ ∃ t ∈ T, x ∈ (named t.2).map W) (hz : (EOf T).length ≤ 100) (hM : ∀ c ∈ abcd, M c ≤ 9) (hN9 : N.length ≤ 900)
   (ha : ∀ c ∈ one, c ∈ abcd) (hc : ∀ c ∈ abcd, one.count c = M c) :
   RunOK ((named one).map W) ⟨gE N (EOf T), readyOf (gE N (EOf T)), 0, 0⟩ ∧ takenRun ((named one).map W) ⟨gE N (EOf T), readyOf (gE N (EOf T)), 0, 0⟩ = fitsB one T := by
 have hrl : (readyOf (gE N (EOf T))).length ≤ 900 := by
   have : (readyOf (gE N (EOf T))).length ≤ (gE N (EOf T)).length := by unfold readyOf; rw [List.length_map]; exact List.length_filter_le _ _
   have h2 : (gE N (EOf T)).length = N.length := by simp [gE, gr]
   lia
 rw [named_nodes]
 refine xA (run_seq hE hz (nodesFrom (fun zw => 0) one) [] (inE (EOf T)) (readyOf (gE N (EOf T))) 0 0 (inv_start hN) (nodes_nodup _ _) (fun x hx => by
   refine xEEAA (node_in.mp hx) fun c i k1 k2 k3 => ?_
   have k4 := ha c k1
   rw [hc c k4] at k2
   refine ⟨(hm x).mpr ((node_N hW).mpr ⟨c, i, k4, k2, k3⟩), by simp, ?_⟩
   rw [k3]
   exact nm_rep c k4 i (by have := hM c k4; lia)) (fun x hx => by
   refine xEEAA ((node_N hW).mp ((hm x).mp hx)) fun c i k1 k2 k3 => ?_
   refine .inr (node_in.mpr ⟨c, i, List.count_pos_iff.mp (by rw [hc c k1]; lia), by rw [hc c k1]; exact k2, k3⟩)) hrl) fun h1 h2 => ?_
 refine ⟨h1, ?_⟩
 rw [Bool.eq_iff_iff]
 refine h2.trans ((seq_fits hW one T _ [] (Stg.start T) DN.start ha fun c hc' => ?_).trans fitsB_iff.symm)
 rw [Nat.zero_add]; exact hc c hc'
theorem nodup_len {α : Type} [BEq α] [LawfulBEq α] : ∀ (l m : List α), l.Nodup → (∀ x ∈ l, x ∈ m) → l.length ≤ m.length
 | [], m, _, _ => Nat.zero_le _
 | x :: l, m, hn, h => by
   rw [List.nodup_cons] at hn
   have hx := h x (.head _)
   have ih := nodup_len l (m.erase x) hn.2 fun y hy => (List.mem_erase_of_ne fun e => hn.1 (by rw [← e]; exact hy)).mpr (h y (.tail _ hy))
   have := List.length_erase_of_mem hx
   have := List.length_pos_of_mem hx
   rw [List.length_cons]
   lia
theorem perm_map {α β : Type} {f : α → β} : ∀ {s : List β} {k : List α}, s.Perm (k.map f) → ∃ l : List α, s = l.map f ∧ l.Perm k
 := by
   intro s k h
   revert k
   suffices H : ∀ {m : List β}, s.Perm m → ∀ k : List α, k.map f = m → ∃ l : List α, s = l.map f ∧ l.Perm k from fun {k} h => H h k rfl
   intro m h
   induction h with
   | nil => intro k e; exact ⟨[], rfl, by rw [List.map_eq_nil_iff.mp e]⟩
   | @cons x l1 l2 _ ih =>
     intro k e
     refine xEEAA (List.map_eq_cons_iff.mp e) fun y k' zz1 zz2 e2 => ?_; subst zz1; subst zz2
     refine xEA (ih _ e2) fun l zz3 hl => ?_; subst zz3
     exact ⟨y :: l, rfl, hl.cons y⟩
   | swap x y l =>
     intro k e
     refine xEEAA (List.map_eq_cons_iff.mp e) fun a k' zz4 zz5 e2 => ?_; subst zz4; subst zz5
     refine xEEAA (List.map_eq_cons_iff.mp e2) fun b k2 zz6 zz7 zz8 => ?_; subst zz6; subst zz7; subst zz8
     exact ⟨b :: a :: k2, rfl, .swap ..⟩
   | trans _ _ ih1 ih2 =>
     intro k e
     refine xEA (ih2 k e) fun l2 zz9 h2 => ?_; subst zz9
     refine xEA (ih1 l2 rfl) fun l1 zz10 h1 => ?_; subst zz10
     exact ⟨l1, rfl, h1.trans h2⟩
theorem Groups.nil_inv {gs rs : List (List Str)} (h : Groups gs rs) (e : rs = []) : gs = [] := by
 have := h.len
 rw [e] at this
 exact List.length_eq_zero_iff.mp this
theorem Groups.cons_inv {gs rs : List (List Str)} (h : Groups gs rs) : ∀ r rest, rs = r :: rest → ∃ s gs', gs = s :: gs' ∧ SortedOf s r ∧ Groups gs' rest := by
 induction h with
 | nil => intro r rest e; exact xnc e
 | @snoc gs rs s r hG hS ih =>
   intro r0 rest e
   cases rs with
   | nil =>
     have : gs = [] := hG.nil_inv rfl
     subst this
     simp at e
     refine xA e fun zz11 zz12 => ?_; subst zz11; subst zz12
     exact ⟨s, [], rfl, hS, .nil⟩
   | cons r1 rs =>
     simp at e
     refine xA e fun zz13 zz14 => ?_; subst zz13; subst zz14
     refine xEEAA (ih r1 rs rfl) fun s0 gs' zz15 h1 h2 => ?_; subst zz15
     exact ⟨s0, gs' ++ [s], rfl, h1, h2.snoc hS⟩
theorem done_all {N : List Str} {E : Edg} (hE : EdgesIn N E) (hz : E.length ≤ 50) (hN9 : N.length ≤ 900) : ∀ (l dn : List Str) (np : Str → Int) (rd : List Str), Inv N E dn np rd → l.Nodup → (∀ x ∈ l, x ∈ N ∧ x ∉ dn ∧ pend E dn x = 0 ∧ np x = -1 ∧ (reprText x).length ≤ 1000) →
   DoneOK l (gr N np (outE E), rd) ∧ ∃ np' rd', doneAll l (gr N np (outE E), rd) = (gr N np' (outE E), rd') ∧ Inv N E (l.reverse ++ dn) np' rd' ∧ ∀ x, np' x = -1 → np x = -1
 | [], dn, np, rd, I, _, _ => ⟨trivial, np, rd, rfl, I, fun _ h => h⟩
 | x :: l, dn, np, rd, I, hn, hl => by
   rw [List.nodup_cons] at hn
   refine xAAAA (hl x (.head _)) fun h1 h2 h3 h4 h5 => ?_
   have hxr : x ∉ rd := fun z => by have := (I.d x z).2.2.2; lia
   refine xEEAAAA (I.done hE h1 h2 h3 hxr) fun np1 rd1 e I1 k1 k2 k3 => ?_
   refine xAEEAA (done_all hE hz hN9 l (x :: dn) np1 rd1 I1 hn.2 fun y hy => by
     refine xAAAA (hl y (.tail _ hy)) fun q1 q2 q3 q4 q5 => ?_
     have hne : y ≠ x := fun z => hn.1 (z ▸ hy)
     refine ⟨q1, ?_, ?_, (k1 y hne q3).trans q4, q5⟩
     · simp only [List.mem_cons, not_or]; exact ⟨hne, q2⟩
     · exact pend_zero.mpr fun a ha => .tail _ (pend_zero.mp q3 a ha)) fun g1 np' rd' g2 g3 g4 => ?_
   refine ⟨⟨(gr_np h1).trans h4, ⟨_, List.mem_map.mpr ⟨x, h1, rfl⟩, rfl⟩, ?_, fun z hz' => ?_, h5, ?_⟩, np', rd', ?_, ?_, fun y hy => k3 y (g4 y hy)⟩
   · exact Nat.le_trans (nodup_len rd N I.n fun y hy => (I.d y hy).1) hN9
   · refine xEA (List.mem_map.mp hz') fun y hy zz16 => ?_; subst zz16
     exact ⟨Nat.le_trans (outE_len E y) hz, fun u hu => ⟨_, List.mem_map.mpr ⟨u, (hE _ (outE_mem.mp hu)).2, rfl⟩, rfl⟩⟩
   · show DoneOK l (gDone (gr N np (outE E)) rd x)
     rw [e]; exact g1
   · show doneAll l (gDone (gr N np (outE E)) rd x) = _
     rw [e]; exact g2
   · rw [List.reverse_cons, List.append_assoc]; exact g3
theorem leadL_mem {T : Told} {c : Nat} : c ∈ leadL T ↔ c ∈ abcd ∧ Leads T c := by rw [leadL, List.mem_filter, ldB_iff]
theorem leadL_nodup (T : Told) : (leadL T).Nodup := List.Sublist.nodup List.filter_sublist (by decide)
theorem leadL_sub (T : Told) : (leadL T).Sublist abcd := List.filter_sublist
theorem lead_one {T : Told} {c : Nat} (h : c ∈ leadL T) : (leadL T).count c = 1 := Nat.le_antisymm (leadL_count T c) (List.count_pos_iff.mpr h)
theorem abcd_lt {c : Nat} (h : c ∈ abcd) : c < 128 := abcd_asc c h
theorem asc_nd {c i : Nat} (h : c ∈ abcd) (hi : i ≤ 9) : Asc [c, 48 + i] := fun x hx => by
 simp only [List.mem_cons, List.not_mem_nil, or_false] at hx
 rcases hx with rfl | rfl
 · exact abcd_lt h
 · lia
theorem total_lt {T T' : Told} {m M : Nat → Nat} (hW : WF T M) (h : Stg T T' m) (hne : leadL T' ≠ []) : total (stepT T' (leadL T')) < total T' := by
 exact xE (List.exists_mem_of_ne_nil _ hne) fun c hc => (xEA (hW.self (leadL_mem.mp hc).1) fun t ht e => (xEEAA (h.fwd t ht) fun s pre h1 zw zw => (xE ((leadL_mem.mp hc).2 _ h1 (by rw [e]; exact .head _)) fun r hr => ((total_step T' _).2 ⟨_, h1, c, r, hr, hc⟩))))
structure Rnd (T : Told) (N : List Str) (T' : Told) (m : Nat → Nat) (dn : List Str) (np : Str → Int) (rd : List Str) : Prop where
 stg : Stg T T' m
 hdn : DN m dn
 inv : Inv N (EOf T) dn np rd
 clean : ∀ x ∈ N, x ∉ dn → np x ≠ -1
theorem Rnd.mem {T T' : Told} {N dn rd : List Str} {m M : Nat → Nat} {np : Str → Int} (hW : WF T M) (hm : ∀ x, x ∈ N ↔ ∃ t ∈ T, x ∈ (named t.2).map W) (h : Rnd T N T' m dn np rd) {x : Str} : x ∈ rd ↔ ∃ c ∈ leadL T', x = nm c (m c) := by
 constructor
 · intro hx
   refine xAAA (h.inv.d x hx) fun h1 h2 h3 zw => ?_
   refine xEEAA ((node_N hW).mp ((hm x).mp h1)) fun c i k1 k2 zz1 => ?_; subst zz1
   refine xA ((pend_iff hW h.stg h.hdn k1 k2 (by have := mt (h.hdn c i k1).mpr h2; lia)).mp h3) fun zz2 hl => ?_; subst zz2
   exact ⟨c, leadL_mem.mpr ⟨k1, hl⟩, rfl⟩
 · intro zz3; refine xEA zz3 fun c hc zz4 => ?_; subst zz4
   refine xA (leadL_mem.mp hc) fun k1 hl => ?_
   have k2 := (h.stg.le hW k1).2 hl
   have hN := (hm _).mpr ((node_N hW).mpr ⟨c, m c, k1, k2, rfl⟩)
   have hd : nm c (m c) ∉ dn := fun z => by have := (h.hdn c _ k1).mp z; lia
   rcases h.inv.c _ hN hd ((pend_iff hW h.stg h.hdn k1 k2 (Nat.le_refl _)).mpr ⟨rfl, hl⟩) with ⟨-, h1⟩ | ⟨h1, -⟩
   · exact h1
   · exact (h.clean _ hN hd h1).elim
theorem Rnd.next {T T' : Told} {N dn rd : List Str} {m M : Nat → Nat} {np : Str → Int} (hW : WF T M) (hm : ∀ x, x ∈ N ↔ ∃ t ∈ T, x ∈ (named t.2).map W) (hE : EdgesIn N (EOf T)) (hz : (EOf T).length ≤ 50) (hN9 : N.length ≤ 900) (hM : ∀ c ∈ abcd, M c ≤ 9) (h : Rnd T N T' m dn np rd) :
   DoneOK rd (gOut (gr N np (outE (EOf T))) rd, []) ∧ ∃ np' rd' dn', doneAll rd (gOut (gr N np (outE (EOf T))) rd, []) = (gr N np' (outE (EOf T)), rd') ∧ Rnd T N (stepT T' (leadL T')) (incL m (leadL T')) dn' np' rd' := by
 rw [gr_out]
 refine xAEEAA (done_all hE hz hN9 rd dn _ [] h.inv.out h.inv.n fun x hx => by
   refine xAAA (h.inv.d x hx) fun h1 h2 h3 zw => ?_
   refine xEA ((h.mem hW hm).mp hx) fun c hc zz5 => ?_; subst zz5
   refine xA (leadL_mem.mp hc) fun k1 hl => ⟨h1, h2, h3, if_pos hx, nm_rep c k1 _ ?_⟩
   have := (h.stg.le hW k1).2 hl
   have := hM c k1
   lia) fun g1 np' rd' g2 g3 g4 => ?_
 refine ⟨g1, np', rd', _, g2, h.stg.pop hW fun c hc => (leadL_mem.mp hc).2, fun c i hc => ?_, g3, fun x hx hxd he => ?_⟩
 · rw [List.mem_append, List.mem_reverse, h.mem hW hm, h.hdn c i hc]
   unfold incL
   constructor
   · rintro (⟨d, hd, e⟩ | h1)
     · refine xA (nm_inj e) fun zz6 zz7 => ?_; subst zz6; subst zz7
       rw [if_pos hd]; lia
     · split <;> lia
   · intro h1
     by_cases hL : c ∈ leadL T'
     · rw [if_pos hL] at h1
       by_cases e : i = m c
       · exact .inl ⟨c, hL, by rw [e]⟩
       · exact .inr (by lia)
     · rw [if_neg hL] at h1
       exact .inr h1
 · rw [List.mem_append, List.mem_reverse, not_or] at hxd
   have := g4 x he
   rw [if_neg hxd.1] at this
   exact h.clean x hx hxd.2 this
theorem sorted_group {gone : List Nat} {L : List Nat} {s rd : List Str} {m : Nat → Nat} (hL : L.Sublist abcd) (hg : ∀ c ∈ abcd, gone.count c = m c) (hn : rd.Nodup) (hm : ∀ x, x ∈ rd ↔ ∃ c ∈ L, x = nm c (m c)) (hs : SortedOf s rd) : s = (grpOf gone L).map W := by
 have hLn : L.Nodup := hL.nodup (by decide)
 have e : (grpOf gone L).map W = L.map fun c => nm c (gone.count c) := by rw [grpOf, List.map_map]; rfl
 have hp : rd.Perm ((grpOf gone L).map W) := by
   refine (List.perm_ext_iff_of_nodup hn ?_).mpr fun x => ?_
   · rw [e]
     exact List.Pairwise.map _ (fun a b hab => fun z => hab (nm_inj z).1) hLn
   · rw [hm, e, List.mem_map]
     refine exists_congr fun c => and_congr_right fun hc => ?_
     rw [hg c (hL.subset hc)]
     exact eq_comm
 refine xEA (perm_map (hs.1.trans hp)) fun l zz8 hl => ?_; subst zz8
 rw [perm_sorted (sorted_pw hs.2) ?_ hl]
 have hlt : L.Pairwise (· < ·) := List.Pairwise.sublist hL (by decide)
 refine List.Pairwise.map _ (fun a b hab => ?_) hlt
 show Spec.ltCps (b :: _) (a :: _) = false
 have h1 : ¬ b < a := by lia
 have h2 : (b == a) = false := by simp; lia
 simp [Spec.ltCps, h1, h2]
theorem rounds {T : Told} {N : List Str} {M : Nat → Nat} (hW : WF T M) (hm : ∀ x, x ∈ N ↔ ∃ t ∈ T, x ∈ (named t.2).map W) (hE : EdgesIn N (EOf T)) (hz : (EOf T).length ≤ 50) (hN9 : N.length ≤ 900) (hM : ∀ c ∈ abcd, M c ≤ 9) : ∀ (k : Nat) (T' : Told) (m : Nat → Nat) (dn : List Str) (np : Str → Int) (rd : List Str) (gone : List Nat), total T' ≤ k → Rnd T N T' m dn np rd → (∀ c ∈ abcd, gone.count c = m c) →
   ∃ rds, rds.length ≤ k ∧ GRun rds (gr N np (outE (EOf T))) rd ∧ ∀ gs lg, Groups gs rds → LRun T' gone lg → gs = lg.map fun g => g.map W := by
 intro k
 induction k with
 | zero =>
   intro T' m dn np rd gone hk h hg
   have h0 : leadL T' = [] := Classical.byContradiction fun z => by have := total_lt hW h.stg z; lia
   have hr : rd = [] := List.eq_nil_iff_forall_not_mem.mpr fun x hx => by
     refine xEA ((h.mem hW hm).mp hx) fun c hc zw => ?_
     rw [h0] at hc; cases hc
   refine ⟨[], Nat.le_refl _, hr, fun gs lg hG hR => ?_⟩
   rw [hG.nil_inv rfl]
   cases hR with
   | stop _ => rfl
   | step hne _ => exact (hne h0).elim
 | succ k ih =>
   intro T' m dn np rd gone hk h hg
   by_cases h0 : leadL T' = []
   · have hr : rd = [] := List.eq_nil_iff_forall_not_mem.mpr fun x hx => by
       refine xEA ((h.mem hW hm).mp hx) fun c hc zw => ?_
       rw [h0] at hc; cases hc
     refine ⟨[], Nat.zero_le _, hr, fun gs lg hG hR => ?_⟩
     rw [hG.nil_inv rfl]
     cases hR with
     | stop _ => rfl
     | step hne _ => exact (hne h0).elim
   · refine xAEEEA (h.next hW hm hE hz hN9 hM) fun d1 np' rd' dn' d2 h' => ?_
     refine xEAA (ih _ _ dn' np' rd' (gone ++ leadL T') (by have := total_lt hW h.stg h0; lia) h' fun c hc => by
       rw [List.count_append, hg c hc]
       unfold incL
       by_cases hL : c ∈ leadL T'
       · rw [if_pos hL, lead_one hL]
       · rw [if_neg hL, List.count_eq_zero_of_not_mem hL]; rfl) fun rds l1 l2 l3 => ?_
     have hne : rd ≠ [] := fun z => by
       refine xE (List.exists_mem_of_ne_nil _ h0) fun c hc => ?_
       have := (h.mem hW hm).mpr ⟨c, hc, rfl⟩
       rw [z] at this; cases this
     have hlen : rd.length ≤ 4 := by
       have := nodup_len rd ((leadL T').map fun c => nm c (m c)) h.inv.n fun x hx => by
         refine xEA ((h.mem hW hm).mp hx) fun c hc zz9 => ?_; subst zz9
         exact List.mem_map.mpr ⟨c, hc, rfl⟩
       rw [List.length_map] at this
       exact Nat.le_trans this (leadL_len T')
     refine ⟨rd :: rds, by rw [List.length_cons]; lia, ⟨rfl, hne, by lia, fun y hy => ?_, d1, by rw [d2]; exact l2⟩, fun gs lg hG hR => ?_⟩
     · refine ⟨?_, _, List.mem_map.mpr ⟨y, (h.inv.d y hy).1, rfl⟩, rfl⟩
       refine xEA ((h.mem hW hm).mp hy) fun c hc zz10 => ?_; subst zz10
       refine xA (leadL_mem.mp hc) fun k1 hl => ?_
       have := (h.stg.le hW k1).2 hl
       have := hM c k1
       exact dat_W (asc_nd k1 (by lia))
     · refine xEEAA (hG.cons_inv rd rds rfl) fun s gs' zz11 hs hG' => ?_; subst zz11
       cases hR with
       | stop z => exact (h0 z).elim
       | step _ hR =>
         rw [l3 gs' _ hG' hR, List.map_cons, ← sorted_group (gone := gone) (leadL_sub T') hg h.inv.n (fun x => h.mem hW hm) hs]
theorem filter_one {L k : List Nat} {c : Nat} (hn : L.Nodup) (hc : c ∈ L) (hk : c ∈ k) (h : ∀ d ∈ L, d ∈ k → d = c) : L.filter (fun d => decide (d ∈ k)) = [c] := by
 have h1 : (L.filter (fun d => decide (d ∈ k))).Nodup := List.Sublist.nodup List.filter_sublist hn
 have h2 : ∀ d ∈ L.filter (fun d => decide (d ∈ k)), d = c := fun d hd => h d (List.mem_filter.mp hd).1 (by simpa using (List.mem_filter.mp hd).2)
 have h3 : c ∈ L.filter (fun d => decide (d ∈ k)) := List.mem_filter.mpr ⟨hc, by simpa using hk⟩
 generalize L.filter (fun d => decide (d ∈ k)) = l at h1 h2 h3
 match l with
 | [] => cases h3
 | [a] => rw [h2 a (.head _)]
 | a :: b :: l =>
   rw [List.nodup_cons] at h1
   exact (h1.1 (by rw [h2 a (.head _), h2 b (.tail _ (.head _))]; exact .head _)).elim
theorem fits_lead {T : Told} (hR : RowsIn T) (x : List Nat) : fitsP (leadL T ++ x) T ↔ fitsP x (stepT T (leadL T)) := by
 have key : ∀ t ∈ T, ((leadL T ++ x).filter (fun c => decide (c ∈ t.1)) = t.2 ↔ x.filter (fun c => decide (c ∈ t.1)) = stepRow (leadL T) t.2) := fun t ht => by
   rw [List.filter_append]
   by_cases h : ∃ c ∈ leadL T, c ∈ t.1
   · refine xEA h fun c hc hk => (xE ((leadL_mem.mp hc).2 t ht hk) fun r hr => ?_)
     rw [filter_one (leadL_nodup T) hc hk fun d hd hdk => by
       refine xE ((leadL_mem.mp hd).2 t ht hdk) fun r2 hr2 => ?_
       rw [hr] at hr2
       injection hr2 with h1 _
       exact h1.symm]
     rw [hr]
     simp [stepRow, hc]
   · have h1 : (leadL T).filter (fun c => decide (c ∈ t.1)) = [] := List.filter_eq_nil_iff.mpr fun c hc z => h ⟨c, hc, by simpa using z⟩
     have h2 : stepRow (leadL T) t.2 = t.2 := by
       cases e : t.2 with
       | nil => rfl
       | cons a r =>
         have : a ∉ leadL T := fun z => h ⟨a, z, hR t ht a (by rw [e]; exact .head _)⟩
         simp [stepRow, this]
     rw [h1, h2]; rfl
 constructor
 · intro h t ht
   refine xEA (List.mem_map.mp ht) fun u hu zz1 => ?_; subst zz1
   exact (key u hu).mp (h u hu)
 · intro h t ht
   exact (key t ht).mpr (h _ (List.mem_map.mpr ⟨t, ht, rfl⟩))
theorem grp_found (gone L : List Nat) : (grpOf gone L).map (fun nd => nd.headD 0) = L := by
 rw [grpOf, List.map_map]
 exact List.map_id L
theorem found_run {T : Told} {M : Nat → Nat} (hW : WF T M) (hM : ∀ c ∈ abcd, M c ≤ 9) {T' : Told} {gone : List Nat} {lg : List (List (List Nat))} (h : LRun T' gone lg) : ∀ m, Stg T T' m → (∀ c ∈ abcd, gone.count c = m c) →
   (lg.length ≤ total T' ∧ (foundOf lg).length ≤ 4 * lg.length ∧ ∀ g ∈ lg, g.length ≤ 4 ∧ ∀ nd ∈ g, Asc nd ∧ nd.length = 2) ∧ (∀ c ∈ foundOf lg, c ∈ abcd) ∧
   ∃ T2 m2, Stg T T2 m2 ∧ leadL T2 = [] ∧ (∀ c ∈ abcd, m2 c = m c + (foundOf lg).count c) ∧ (fitsP (foundOf lg) T' ↔ fitsP [] T2) := by
 induction h with
 | @stop T' gone h0 =>
   intro m hS hg
   exact ⟨⟨Nat.zero_le _, Nat.le_refl _, (by intro g hg; cases hg)⟩, (by intro c hc; cases hc), T', m, hS, h0, fun c zw => rfl, Iff.rfl⟩
 | @step T' gone gs hne hR ih =>
   intro m hS hg
   refine xAAEEAAA (ih _ (hS.pop hW fun c hc => (leadL_mem.mp hc).2) fun c hc => by
     rw [List.count_append, hg c hc]
     unfold incL
     by_cases hL : c ∈ leadL T'
     · rw [if_pos hL, lead_one hL]
     · rw [if_neg hL, List.count_eq_zero_of_not_mem hL]; rfl) fun zz2 i4 T2 m2 i5 i6 i7 i8 => ?_; obtain ⟨i1, i2, i3⟩ := zz2
   have e : foundOf (grpOf gone (leadL T') :: gs) = leadL T' ++ foundOf gs := by
     show ((grpOf gone (leadL T')).map (fun nd => nd.headD 0)) ++ foundOf gs = _
     rw [grp_found]
   have hlen := leadL_len T'
   rw [e]
   refine ⟨⟨by have := total_lt hW hS hne; rw [List.length_cons]; lia, by rw [List.length_append, List.length_cons]; lia, fun g hgm => ?_⟩, fun c hc => ?_, T2, m2, i5, i6, fun c hc => ?_, (fits_lead (hS.rowsIn hW) _).trans i8⟩
   · rcases List.mem_cons.mp hgm with rfl | hgm
     · refine ⟨by rw [grpOf, List.length_map]; exact hlen, fun nd hnd => ?_⟩
       refine xEA (List.mem_map.mp hnd) fun c hc zz3 => ?_; subst zz3
       refine xA (leadL_mem.mp hc) fun k1 hl => ?_
       have h2 := (hS.le hW k1).1
       have h3 := hM c k1
       exact ⟨asc_nd k1 (by rw [hg c k1]; lia), rfl⟩
     · exact i3 g hgm
   · rcases List.mem_append.mp hc with hc | hc
     · exact (leadL_mem.mp hc).1
     · exact i4 c hc
   · rw [i7 c hc, List.count_append]
     unfold incL
     by_cases hL : c ∈ leadL T'
     · rw [if_pos hL, lead_one hL]; lia
     · rw [if_neg hL, List.count_eq_zero_of_not_mem hL]; lia
noncomputable def dnOf (m : Nat → Nat) : List Str := abcd.flatMap fun c => (List.range (m c)).map (nm c)
theorem dn_of (m : Nat → Nat) : DN m (dnOf m) := fun c i hc => by
 unfold dnOf
 rw [List.mem_flatMap]
 constructor
 · intro zz4; refine xEA zz4 fun d hd h => ?_
   refine xEA (List.mem_map.mp h) fun j hj e => ?_
   refine xA (nm_inj e) fun zz5 zz6 => ?_; subst zz5; subst zz6
   exact List.mem_range.mp hj
 · intro h
   exact ⟨c, hc, List.mem_map.mpr ⟨i, List.mem_range.mpr h, rfl⟩⟩
theorem no_ring_done {T T' : Told} {N : List Str} {m M : Nat → Nat} (hW : WF T M) (hm : ∀ x, x ∈ N ↔ ∃ t ∈ T, x ∈ (named t.2).map W) (hE : EdgesIn N (EOf T)) (hC : ¬ Cyc (gE N (EOf T))) (hS : Stg T T' m) (h0 : leadL T' = []) : ∀ c ∈ abcd, m c = M c := fun c hc => by
 refine Classical.byContradiction fun hne => ?_
 have hle := (hS.le hW hc).1
 have hd := dn_of m
 have hN : ∀ d i, d ∈ abcd → i < M d → nm d i ∈ N := fun d i hd hi => (hm _).mpr ((node_N hW).mpr ⟨d, i, hd, hi, rfl⟩)
 have hx : nm c (m c) ∈ N.filter fun x => decide (x ∉ dnOf m) := List.mem_filter.mpr ⟨hN c _ hc (by lia), by rw [decide_eq_true_eq, hd c _ hc]; lia⟩
 refine xEA (source_of hE hC _ _ (Nat.le_refl _) (List.ne_nil_of_mem hx)) fun x hxS hno => (xA (List.mem_filter.mp hxS) fun hxN hxd => ?_)
 rw [decide_eq_true_eq] at hxd
 refine xEEAA ((node_N hW).mp ((hm x).mp hxN)) fun d i k1 k2 zz7 => ?_; subst zz7
 have hp : pend (EOf T) (dnOf m) (nm d i) = 0 := pend_zero.mpr fun a ha => Classical.byContradiction fun z => hno a (List.mem_filter.mpr ⟨(hE _ ha).1, by rw [decide_eq_true_eq]; exact z⟩) ha
 have hl := ((pend_iff hW hS hd k1 k2 (by have := mt (hd d i k1).mpr hxd; lia)).mp hp).2
 have := leadL_mem.mpr ⟨k1, hl⟩
 rw [h0] at this
 cases this
theorem chain_len : ∀ (l : List Str) (q : Option Str), (chainE q l).length ≤ l.length
 | [], _ => Nat.le_refl _
 | x :: l, q => by
   have := chain_len l (some x)
   cases q <;> simp [chainE] <;> lia
theorem eof_len : ∀ T : Told, (∀ t ∈ T, t.2.length ≤ 5) → (EOf T).length ≤ 5 * T.length
 | [], _ => Nat.le_refl _
 | t :: T, h => by
   have ih := eof_len T fun u hu => h u (.tail _ hu)
   have h1 := chain_len ((named t.2).map W) none
   have h2 := h t (.head _)
   have h3 : ((named t.2).map W).length = t.2.length := by simp [named]
   have e : EOf (t :: T) = chainE none ((named t.2).map W) ++ EOf T := rfl
   rw [e, List.length_append, List.length_cons]
   lia
theorem total_le : ∀ T : Told, (∀ t ∈ T, t.2.length ≤ 5) → total T ≤ 5 * T.length
 | [], _ => Nat.le_refl _
 | t :: T, h => by
   have ih := total_le T fun u hu => h u (.tail _ hu)
   have h2 := h t (.head _)
   have e : total (t :: T) = t.2.length + total T := by simp [total]
   rw [e, List.length_cons]
   lia
noncomputable def keyAll : List (List Nat) := pairs6 ++ abcd.map fun c => [c, c]
theorem keyAll_ok : ∀ k ∈ keyAll, (∃ x y, k = [x, y] ∧ x ≤ y) ∧ ∀ c ∈ k, c ∈ abcd := by
 intro k hk
 simp only [keyAll, pairs6, abcd, List.map_cons, List.map_nil, List.cons_append, List.nil_append, List.mem_cons, List.not_mem_nil, or_false] at hk
 rcases hk with rfl | rfl | rfl | rfl | rfl | rfl | rfl | rfl | rfl | rfl <;> exact ⟨⟨_, _, rfl, by decide⟩, by decide⟩
theorem view_each {w o : List Nat} {vs : Views} (h : ViewsOK w o vs) {v : List Nat × List Nat} (hv : v ∈ vs) : v.1 ∈ keyAll ∧ v.2.Perm w := by
 refine xEAA h.split fun vs0 zz1 h1 h2 => ?_; subst zz1
 rcases List.mem_append.mp hv with hv | hv
 · refine ⟨List.mem_append_left _ (h1.subset (List.mem_map.mpr ⟨v, hv, rfl⟩)), ?_⟩
   rcases h2 v hv with e | e <;> rw [e]
   exact h.perm
 · refine xEA (List.mem_map.mp hv) fun c hc zz2 => ?_; subst zz2
   exact ⟨List.mem_append_right _ (List.mem_map.mpr ⟨c, hc, rfl⟩), .refl _⟩
theorem tell_wf {w o : List Nat} {vs : Views} (h : ViewsOK w o vs) : WF (tellOf vs) fun c => w.count c := by
 have hk : keys (tellOf vs) = vs.map (·.1) := by rw [keys, tellOf, List.map_map]; rfl
 refine ⟨(views_ok h).keys, fun t ht c hc => ?_, fun t ht c hc => ?_, ⟨fun k hk' => ?_, fun c hc => ?_⟩, fun t ht c hc => ?_⟩
 · refine xEA (List.mem_map.mp ht) fun v hv zz3 => ?_; subst zz3
   simpa using (List.mem_filter.mp hc).2
 · refine xEA (List.mem_map.mp ht) fun v hv zz4 => ?_; subst zz4
   show (v.2.filter _).count c = _
   rw [List.count_filter (by simpa using hc)]
   exact (view_each h hv).2.count_eq c
 · rw [hk] at hk'
   refine xEA (List.mem_map.mp hk') fun v hv zz5 => ?_; subst zz5
   exact (keyAll_ok _ (view_each h hv).1).1
 · rw [hk]
   refine xEAA h.split fun vs0 zz6 zw zw => ?_; subst zz6
   rw [List.map_append, List.map_map]
   exact List.mem_append_right _ (List.mem_map.mpr ⟨c, hc, rfl⟩)
 · refine xEA (List.mem_map.mp ht) fun v hv zz7 => ?_; subst zz7
   exact (keyAll_ok _ (view_each h hv).1).2 c hc
theorem law_facts (w o : List Nat) (vs : Views) (h : ViewsOK w o vs) : LawFacts w o (tellOf vs) := by
 have hW := tell_wf h
 have hV := views_ok h
 generalize hT : tellOf vs = T at hW
 have hwA : Asc w := fun c hc => abcd_asc c (h.abc c hc)
 have hM5 : ∀ c, w.count c ≤ 5 := fun c => Nat.le_trans List.count_le_length (Nat.le_of_eq h.len)
 have hM : ∀ c ∈ abcd, w.count c ≤ 9 := fun c zw => Nat.le_trans (hM5 c) (by decide)
 have hok : ∀ t ∈ T, Asc t.1 ∧ Asc t.2 ∧ t.2.length ≤ 5 := fun t ht => by
   have hasc : Asc t.1 := fun c hc => abcd_lt (hW.abc t ht c hc)
   refine ⟨hasc, fun c hc => hasc c (hW.rows t ht c hc), ?_⟩
   rw [← hT] at ht
   refine xEA (List.mem_map.mp ht) fun v hv zz8 => ?_; subst zz8
   exact Nat.le_trans (List.length_filter_le _ _) (Nat.le_of_eq ((view_each h hv).2.length_eq.trans h.len))
 have hlen : T.length ≤ 10 := by rw [← hT, tellOf, List.length_map]; exact hV.len
 have hz : (EOf T).length ≤ 50 := by have := eof_len T fun t ht => (hok t ht).2.2; lia
 have htot : total T ≤ 50 := by have := total_le T fun t ht => (hok t ht).2.2; lia
 refine xEAAA (sg_start T) fun N e hE hN hm => ?_
 have hN9 : N.length ≤ 900 := by
   have h1 := nodup_len N (dnOf fun c => w.count c) hN fun x hx => by
     refine xEEAA ((node_N hW).mp ((hm x).mp hx)) fun c i k1 k2 zz9 => ?_; subst zz9
     exact (dn_of _ c i k1).mpr k2
   have h2 : (dnOf fun c => w.count c).length ≤ 20 := by
     have a := hM5 97
     have b := hM5 98
     have c := hM5 99
     have d := hM5 100
     simp only [dnOf, abcd, List.flatMap_cons, List.flatMap_nil, List.length_append, List.length_map, List.length_range, List.length_nil]
     lia
   lia
 have hperm : ∀ x : List Nat, x.Perm w → (∀ c ∈ x, c ∈ abcd) ∧ ∀ c ∈ abcd, x.count c = w.count c := fun x hx => ⟨fun c hc => h.abc c (hx.mem_iff.mp hc), fun c zw => hx.count_eq c⟩
 refine ⟨?_, fun one hone => ?_, ?_, fun lg hR => ?_, fun d r hd l hl hp => ?_, fun hC x hx => ?_, fun hC lg hR => ?_, fun c hc => ?_, hok, hlen, hW.nodup⟩
 · rw [e]
   intro z hz'
   refine xEA (List.mem_map.mp hz') fun y hy zz10 => ?_; subst zz10
   exact ⟨Nat.le_trans (outE_len _ y) hz, fun u hu => ⟨_, List.mem_map.mpr ⟨u, (hE _ (outE_mem.mp hu)).2, rfl⟩, rfl⟩⟩
 · have hp : one.Perm w := by
     rcases hone with rfl | rfl
     · exact .refl _
     · exact h.perm
   unfold startTS
   rw [e]
   exact run_fits hW hE hN hm (by lia) hM hN9 (hperm one hp).1 (hperm one hp).2
 · refine xEAA (rounds hW hm hE hz hN9 hM (total T) T (fun zw => 0) [] (inE (EOf T)) (readyOf (gE N (EOf T))) [] (Nat.le_refl _) ⟨Stg.start T, DN.start, inv_start hN, fun x zw zw z => by
     have : (0 : Int) ≤ inE (EOf T) x := Int.natCast_nonneg _
     lia⟩ fun c zw => rfl) fun rds h1 h2 h3 => ?_
   exact ⟨rds, by lia, by rw [e]; exact h2, h3⟩
 · refine xA (found_run hW hM hR _ (Stg.start T) fun c zw => rfl) fun zz11 zw => ?_; obtain ⟨h1, h2, h3⟩ := zz11
   exact ⟨by lia, by lia, fun g hg => ⟨by have := (h3 g hg).1; lia, (h3 g hg).2⟩⟩
 · refine orders_lt (d := d) ?_ (fun y hy => h.abc y (by rw [hd]; exact List.mem_append_left _ hy)) hl hp
   have := h.len
   rw [hd, List.length_append] at this
   lia
 · refine Bool.eq_false_iff.mpr fun hf => ?_
   have hs := (seq_fits hW x T _ [] (Stg.start T) DN.start (hperm x hx).1 fun c hc => by rw [Nat.zero_add]; exact (hperm x hx).2 c hc).mpr (fitsB_iff.mp hf)
   rw [e] at hC
   refine seq_acyclic hE hs (nodes_nodup _ _) (fun y hy => (xEEAA ((node_N hW).mp ((hm y).mp hy)) fun c i k1 k2 k3 => ?_)) hC
   rw [← hx.count_eq c] at k2
   exact node_in.mpr ⟨c, i, List.count_pos_iff.mp (by lia), k2, k3⟩
 · rw [e] at hC
   refine xAAEEAAA (found_run hW hM hR _ (Stg.start T) fun c zw => rfl) fun zw h4 T2 m2 h5 h6 h7 h8 => ?_
   have h9 := no_ring_done hW hm hE hC h5 h6
   have hf : fitsP (foundOf lg) T := h8.mpr fun t ht => (h5.empty hW h9 ht).symm
   have hpw : (foundOf lg).Perm w := List.perm_iff_count.mpr fun c => by
     by_cases hc : c ∈ abcd
     · have := h7 c hc
       rw [h9 c hc] at this
       lia
     · rw [List.count_eq_zero_of_not_mem fun z => hc (h4 c z), List.count_eq_zero_of_not_mem fun z => hc (h.abc c z)]
   exact ⟨hpw, fun x => ⟨fun hr => ⟨hr.perm.trans hpw, fitsB_iff.mpr (reach_fits hW.kok h4 hf hr)⟩, fun zy1 => xA zy1 fun h1 h2 => (fits_reach hW.kok x (foundOf lg) T rfl hW.rows (hperm x h1).1 (hpw.trans h1.symm) hf (fitsB_iff.mp h2))⟩⟩
 · exact xEA (hW.self hc) fun t ht e2 => (⟨t, ht, by rw [e2]; exact .head _⟩)
noncomputable def ad1 : Ad := ⟨40, 36, 41, 42, 43, 137, 73, 80, 87, 92, 99, 106, 120, 127, 55⟩
noncomputable def adl1 : AdL := ⟨148, 153, 160, 165, 172, 179, 186, 191, 196, 201, 208, 215⟩
theorem meth_of {p : PC} {C f : Addr} {name : Str} (h0 : hasDictIn p.K C = true) (h1 : findIn p.K (.ref C) name = some (some (.ref f))) (h2 : typeIn p.K (.ref f) = some (.type "function")) (h3 : keepIn p.K (.ref f) = true) (h4 : fnIn p.K f = true)
   (h5 : specialIn p.K (.ref f) "__get__" = some (some (.builtin "function.__get__"))) (h6 : takesIn p.K (.ref f) = some false) (h7 : copiedNames.contains name = false) : KMeth p C name f :=
 ⟨h1, h2, h3, h4, fun _ _ hl => findObj_fn h0 h1 h5 h6 h7 hl⟩
theorem ownQ_of {K : Frag} {h : Heap} {mg : Str → Option Value} {x nm q : Str} {C N : Addr} {bs : List Value} {bm : List Value} {hdct : Bool} {sn : List Str} {sub : List Value} {ab : Bool} {col : Option Bool} {dd : Option Addr} {k0 k1 k2 k3 k5 : Option Value} {newId : String}
   (X : K.In h) (hm : mg x = some (.ref C)) (hl : K.lookup C = some (excClassObj nm q C N bs bm hdct sn sub ab col dd k0 k1 k2 k3 k5 newId)) (hok : nsOkIn K N = true) (hq : ∀ n ∈ quietNames, nsIn K N n = some none) : OwnClsQ x C bm newId mg h :=
 ⟨hm, bm, N, nm, q, bs, hdct, sn, sub, ab, col, dd, k0, k1, k2, k3, k5, _, X _ _ hl, .of_isNs (isNs_of_in X hok), fun n hn => nsMap_none_of_in X hok (hq n hn), .base⟩
theorem vrs_ints {h : Heap} {ns : List Int} {vs : List Value} (x : IntsAre vs ns) : VRs h (ns.map .int) vs := by
 induction x with
 | nil => exact .nil
 | cons _ _ _ ih => exact .cons (.int _ _) ih
theorem list_at {P : Params} {h : Heap} {a : Addr} {vs : List Value} {d : List WData} (W : Well P h (.ref a) (.list d)) (L : h.IsList a vs.toArray) : h.get? a = some (lstObj vs 0) := by
 refine xEAAE L fun o ho _ k hd => ?_
 cases W with
 | list e _ =>
   rw [ho] at e
   cases Option.some.inj e
   simp only [Data.seq.injEq] at hd
   have := congrArg Array.toList hd.1
   simp only at this
   rw [ho, this]
theorem law_join {p : PC} {s : Shared} {f a : Addr} {script : List Int} {vs : List Value} {k : Nat} {R : Result → Shared → Prop} (hB : KB2 p) (hS : KS2 p ad1) (hC : KC p ad1) (hL : KL p adl1) (hF : FnK p f (nthS P1 21) .none) (hgp : p.gp = AllBare) (hbase : p.base = s.heap) (hos : s.os = p.os) (hg : s.gens = #[])
   (hl : s.heap.get? a = some (lstObj vs k)) (hi : IntsAre vs script) (hn : script.length ≤ 63)
   (hR : ∀ s', Sub s.heap s'.heap → s'.os = s.os → AllBare s'.gens → R (.ok (.ret (.bool true))) s') : codeAny (model p.prog p.w) callerA (.call (.ref f) ⟨[.ref a], []⟩) R s :=
 law_call hB hS hC hL hF hgp hbase hos hg (.lst hl (vrs_ints hi)) hn law_facts hR
noncomputable def view1 : Program := { P1 with main := { P1.main with body := [0, 2, 3, 4, 5, 6, 8, 10, 11, 12, 13, 14, 15, 16, 17, 18, 19, 20, 21].map (nthS P1) } }
noncomputable def m4 (i : Nat) : Stmt := methS (nthS P1 4) i
noncomputable def m6 (i : Nat) : Stmt := methS (nthS P1 6) i
noncomputable abbrev vS (s : String) (t : Tok) : Value := .str (Str.ofString s) t
noncomputable abbrev dE (P : Params) (s : String) (t : Tok) (v : Value) : DictEntry := ⟨PyData.keyHash P (Str.ofString s), .str (Str.ofString s) t, v⟩
noncomputable abbrev vI (i : Int) : Value := .int i 0
noncomputable abbrev vR (a : Addr) : Value := .ref a
noncomputable abbrev oK (s : String) (d : Data) (l : Array (Option Value)) : Obj := ⟨.type s, none, d, l⟩
noncomputable abbrev d0 : Data := .seq #[] 0
noncomputable abbrev fD (a b : String) (s : Stmt) (d : Value) (m : String) (t : Tok) (r : Addr) : FuncData := .mk (Str.ofString a) (Str.ofString b) (fnArgs s) (.stmts (fnBody s)) (fnScope s) 3 [] d .none .none (vS m t) none (vR r) .none 0
noncomputable abbrev cO (a : String) (t1 : Tok) (b : String) (t2 t3 : Tok) (i j : Int) (r1 r2 : Addr) (v1 v2 : Value) (r3 : Addr) (k : Int) (t4 : Tok) : Obj := oK "code" (.fields #[vS a t1, vS b t2, vS "/claim/cut.py" t3, vI i, vI j, vI 0, vI 0, vI 3, vR r1, .bool true, vI 181, vR r2, .none, v1, v2, vR r3, vI k, vI i, vS "/claim/cut.py" t4]) #[]
noncomputable def frag1 (P : Params) : Frag :=
 [(2, (Obj.mk Value.none none (Data.dict #[] 0) #[])),
(3, (oK "dict" (Data.dict #[(dE P "__name__" 165 (vS "law_nq0159_02" 389)), (dE P "__doc__" 166 Value.none), (dE P "__package__" 167 Value.none), (dE P "__loader__" 168 (Value.builtin "__main__.__loader__#opaque")), (dE P "__spec__" 169 Value.none), (dE P "__annotations__" 170 (vR 6)), (dE P "__builtins__" 171 (vR 4)), (dE P "__file__" 173 (vS "/claim/cut.py" 172)), (dE P "__cached__" 174 Value.none), (dE P "_wall" 193 (vR 21)), (dE P "_NODE_OUT" 198 (Value.int (@Neg.neg Int Int.instNegInt 1) 197)), (dE P "_NODE_DONE" 201 (Value.int (@Neg.neg Int Int.instNegInt 2) 200)), (dE P "_NodeInfo" 238 (vR 40)), (dE P "CycleError" 256 (vR 55)), (dE P "TopologicalSorter" 375 (vR 137)), (dE P "restore" 388 (vR 148)), (dE P "_law_views" 396 (vR 153)), (dE P "_law_delta" 407 (vR 160)), (dE P "_law_named" 413 (vR 165)), (dE P "_law_sorter" 425 (vR 172)), (dE P "_law_smooth" 432 (vR 179)), (dE P "_law_groups" 441 (vR 186)), (dE P "_law_leading" 447 (vR 191)), (dE P "_law_orders" 453 (vR 196)), (dE P "_law_fits" 459 (vR 201)), (dE P "_law_taken" 469 (vR 208)), (dE P "_law_exchanged" 483 (vR 215)), (dE P "law" 489 (vR 220))] 28) #[])),
(15, (oK "tuple" d0 #[])),
(17, (oK "tuple" (Data.seq #[(vS "k" 190)] 0) #[])),
(18, (oK "tuple" d0 #[])),
(20, (cO "_wall" 187 "_wall" 188 189 1 1 15 16 (vR 17) (vR 18) 19 191 192)),
(21, (oK "function" (.func (fD "_wall" "_wall" (nthS P1 0) Value.none "__main__" 164 20)) #[])),
(29, (oK "tuple" (Data.seq #[(vS "node" 214), (vS "npredecessors" 215), (vS "successors" 216)] 0) #[])),
(30, (oK "tuple" d0 #[])),
(32, (oK "tuple" (Data.seq #[(vS "self" 221), (vS "node" 222)] 0) #[])),
(33, (oK "tuple" d0 #[])),
(35, (cO "__init__" 218 "_NodeInfo.__init__" 219 220 10 2 30 31 (vR 32) (vR 33) 34 223 224)),
(36, (oK "function" (.func (fD "__init__" "_NodeInfo.__init__" (m4 1) Value.none "cpy313.graphlib" 194 35)) #[])),
(37, (oK "tuple" (Data.seq #[(vS "node" 226), (vS "npredecessors" 227), (vS "successors" 228)] 0) #[])),
(39, (oK "dict" (Data.dict #[(dE P "__module__" 209 (vS "cpy313.graphlib" 194)), (dE P "__firstlineno__" 213 (Value.int 7 212)), (dE P "__slots__" 217 (vR 29)), (dE P "__init__" 225 (vR 36)), (dE P "__static_attributes__" 229 (vR 37)), (dE P "node" 231 (vR 41)), (dE P "npredecessors" 233 (vR 42)), (dE P "successors" 235 (vR 43)), (dE P "__doc__" 236 Value.none)] 5) #[])),
(40, (oK "type" (Data.cls (ClassData.mk (Str.ofString "_NodeInfo") [(Value.type "object")] [(vR 40), (Value.type "object")] 39 (Str.ofString "_NodeInfo") Bool.false [(Str.ofString "node"), (Str.ofString "npredecessors"), (Str.ofString "successors")] [] Bool.false none Bool.false)) #[none, none, (some (vS "_NodeInfo" 202)), (some (vS "_NodeInfo" 210)), (some (Value.builtin "object.__new__")), (some (Value.bool Bool.false))])),
(41, (oK "member_descriptor" (Data.fields #[(vS "node" 230), (vR 40), (Value.builtin "proto.slot"), (Value.builtin "proto.slot#set"), (vI 2)]) #[])),
(42, (oK "member_descriptor" (Data.fields #[(vS "npredecessors" 232), (vR 40), (Value.builtin "proto.slot"), (Value.builtin "proto.slot#set"), (vI 1)]) #[])),
(43, (oK "member_descriptor" (Data.fields #[(vS "successors" 234), (vR 40), (Value.builtin "proto.slot"), (Value.builtin "proto.slot#set"), (vI 0)]) #[])),
(46, (oK "tuple" (Data.seq #[(Value.type "ValueError")] 0) #[])),
(53, (oK "tuple" d0 #[])),
(54, (oK "dict" (Data.dict #[(dE P "__module__" 246 (vS "cpy313.graphlib" 194)), (dE P "__firstlineno__" 250 (Value.int 14 249)), (dE P "__static_attributes__" 251 (vR 53)), (dE P "__weakref__" 253 (vR 56)), (dE P "__doc__" 254 Value.none)] 3) #[])),
(55, (oK "type" (Data.cls (ClassData.mk (Str.ofString "CycleError") [(Value.type "ValueError")] [(vR 55), (Value.type "ValueError"), (Value.type "Exception"), (Value.type "BaseException"), (Value.type "object")] 54 (Str.ofString "CycleError") Bool.true [] [] Bool.false none Bool.false)) #[(some (vR 46)), none, (some (vS "CycleError" 239)), (some (vS "CycleError" 247)), (some (Value.builtin "ValueError.__new__")), (some (Value.bool Bool.true))])),
(56, (oK "getset_descriptor" (Data.fields #[(vS "__weakref__" 252), (vR 55), (Value.builtin "ExceptionGroup.__weakref__"), Value.none]) #[])),
(66, (oK "tuple" (Data.seq #[Value.none] 0) #[])),
(67, (oK "tuple" d0 #[])),
(69, (oK "tuple" (Data.seq #[(vS "self" 272), (vS "graph" 273), (vS "node" 274), (vS "predecessors" 275)] 0) #[])),
(70, (oK "tuple" d0 #[])),
(72, (cO "__init__" 269 "TopologicalSorter.__init__" 270 271 18 2 67 68 (vR 69) (vR 70) 71 276 277)),
(73, (oK "function" (.func (fD "__init__" "TopologicalSorter.__init__" (m6 0) (vR 66) "cpy313.graphlib" 194 72)) #[])),
(74, (oK "tuple" d0 #[])),
(76, (oK "tuple" (Data.seq #[(vS "self" 282), (vS "node" 283), (vS "result" 284)] 0) #[])),
(77, (oK "tuple" d0 #[])),
(79, (cO "_get_nodeinfo" 279 "TopologicalSorter._get_nodeinfo" 280 281 27 2 74 75 (vR 76) (vR 77) 78 285 286)),
(80, (oK "function" (.func (fD "_get_nodeinfo" "TopologicalSorter._get_nodeinfo" (m6 1) Value.none "cpy313.graphlib" 194 79)) #[])),
(81, (oK "tuple" d0 #[])),
(83, (oK "tuple" (Data.seq #[(vS "self" 291), (vS "node" 292), (vS "predecessors" 293), (vS "nodeinfo" 294), (vS "pred" 295), (vS "pred_info" 296)] 0) #[])),
(84, (oK "tuple" d0 #[])),
(86, (oK "code" (Data.fields #[(vS "add" 288), (vS "TopologicalSorter.add" 289), (vS "/claim/cut.py" 290), (vI 32), (vI 2), (vI 0), (vI 0), (vI 7), (vR 81), (Value.bool Bool.true), (vI 181), (vR 82), Value.none, (vR 83), (vR 84), (vR 85), (vI 297), (vI 32), (vS "/claim/cut.py" 298)]) #[])),
(87, (oK "function" (.func (fD "add" "TopologicalSorter.add" (m6 2) Value.none "cpy313.graphlib" 194 86)) #[])),
(88, (oK "tuple" d0 #[])),
(91, (cO "prepare" 300 "TopologicalSorter.prepare" 301 302 41 1 88 89 Value.none Value.none 90 303 304)),
(92, (oK "function" (.func (fD "prepare" "TopologicalSorter.prepare" (m6 3) Value.none "cpy313.graphlib" 194 91)) #[])),
(93, (oK "tuple" d0 #[])),
(95, (oK "tuple" (Data.seq #[(vS "self" 309), (vS "result" 310), (vS "n2i" 311), (vS "node" 312)] 0) #[])),
(96, (oK "tuple" d0 #[])),
(98, (cO "get_ready" 306 "TopologicalSorter.get_ready" 307 308 49 1 93 94 (vR 95) (vR 96) 97 313 314)),
(99, (oK "function" (.func (fD "get_ready" "TopologicalSorter.get_ready" (m6 4) Value.none "cpy313.graphlib" 194 98)) #[])),
(100, (oK "tuple" d0 #[])),
(102, (oK "tuple" (Data.seq #[(vS "self" 319)] 0) #[])),
(103, (oK "tuple" d0 #[])),
(105, (cO "is_active" 316 "TopologicalSorter.is_active" 317 318 60 1 100 101 (vR 102) (vR 103) 104 320 321)),
(106, (oK "function" (.func (fD "is_active" "TopologicalSorter.is_active" (m6 5) Value.none "cpy313.graphlib" 194 105)) #[])),
(107, (oK "tuple" d0 #[])),
(109, (oK "tuple" (Data.seq #[(vS "self" 326)] 0) #[])),
(110, (oK "tuple" d0 #[])),
(112, (cO "__bool__" 323 "TopologicalSorter.__bool__" 324 325 65 1 107 108 (vR 109) (vR 110) 111 327 328)),
(113, (oK "function" (.func (fD "__bool__" "TopologicalSorter.__bool__" (m6 6) Value.none "cpy313.graphlib" 194 112)) #[])),
(114, (oK "tuple" d0 #[])),
(116, (oK "tuple" (Data.seq #[(vS "self" 333), (vS "nodes" 334), (vS "n2i" 335), (vS "node" 336), (vS "nodeinfo" 337), (vS "stat" 338), (vS "successor" 339), (vS "successor_info" 340)] 0) #[])),
(117, (oK "tuple" d0 #[])),
(119, (oK "code" (Data.fields #[(vS "done" 330), (vS "TopologicalSorter.done" 331), (vS "/claim/cut.py" 332), (vI 68), (vI 1), (vI 0), (vI 0), (vI 7), (vR 114), (Value.bool Bool.true), (vI 181), (vR 115), Value.none, (vR 116), (vR 117), (vR 118), (vI 341), (vI 68), (vS "/claim/cut.py" 342)]) #[])),
(120, (oK "function" (.func (fD "done" "TopologicalSorter.done" (m6 7) Value.none "cpy313.graphlib" 194 119)) #[])),
(121, (oK "tuple" d0 #[])),
(123, (oK "tuple" (Data.seq #[(vS "self" 347), (vS "n2i" 348), (vS "stack" 349), (vS "itstack" 350), (vS "seen" 351), (vS "node2stacki" 352), (vS "node" 353)] 0) #[])),
(124, (oK "tuple" d0 #[])),
(126, (cO "_find_cycle" 344 "TopologicalSorter._find_cycle" 345 346 91 1 121 122 (vR 123) (vR 124) 125 354 355)),
(127, (oK "function" (.func (fD "_find_cycle" "TopologicalSorter._find_cycle" (m6 8) Value.none "cpy313.graphlib" 194 126)) #[])),
(128, (oK "tuple" d0 #[])),
(130, (oK "tuple" (Data.seq #[(vS "self" 360)] 0) #[])),
(131, (oK "tuple" d0 #[])),
(133, (cO "static_order" 357 "TopologicalSorter.static_order" 358 359 120 1 128 129 (vR 130) (vR 131) 132 361 362)),
(134, (oK "function" (.func (fD "static_order" "TopologicalSorter.static_order" (m6 9) Value.none "cpy313.graphlib" 194 133)) #[])),
(135, (oK "tuple" (Data.seq #[(vS "_nfinished" 364), (vS "_node2info" 365), (vS "_npassedout" 366), (vS "_ready_nodes" 367)] 0) #[])),
(136, (oK "dict" (Data.dict #[(dE P "__module__" 264 (vS "cpy313.graphlib" 194)), (dE P "__firstlineno__" 268 (Value.int 16 267)), (dE P "__init__" 278 (vR 73)), (dE P "_get_nodeinfo" 287 (vR 80)), (dE P "add" 299 (vR 87)), (dE P "prepare" 305 (vR 92)), (dE P "get_ready" 315 (vR 99)), (dE P "is_active" 322 (vR 106)), (dE P "__bool__" 329 (vR 113)), (dE P "done" 343 (vR 120)), (dE P "_find_cycle" 356 (vR 127)), (dE P "static_order" 363 (vR 134)), (dE P "__static_attributes__" 368 (vR 135)), (dE P "__dict__" 370 (vR 138)), (dE P "__weakref__" 372 (vR 139)), (dE P "__doc__" 373 Value.none)] 4) #[])),
(137, (oK "type" (Data.cls (ClassData.mk (Str.ofString "TopologicalSorter") [(Value.type "object")] [(vR 137), (Value.type "object")] 136 (Str.ofString "TopologicalSorter") Bool.true [] [] Bool.false none Bool.false)) #[none, none, (some (vS "TopologicalSorter" 257)), (some (vS "TopologicalSorter" 265)), (some (Value.builtin "object.__new__")), (some (Value.bool Bool.true))])),
(138, (oK "getset_descriptor" (Data.fields #[(vS "__dict__" 369), (vR 137), (Value.builtin "function.__dict__"), (Value.builtin "function.__dict__#set")]) #[])),
(139, (oK "getset_descriptor" (Data.fields #[(vS "__weakref__" 371), (vR 137), (Value.builtin "ExceptionGroup.__weakref__"), Value.none]) #[])),
(142, (oK "tuple" d0 #[])),
(144, (oK "tuple" (Data.seq #[(vS "delta" 381), (vS "which" 382), (vS "tag" 383), (vS "prefixes" 384), (vS "line" 385)] 0) #[])),
(145, (oK "tuple" d0 #[])),
(147, (oK "code" (Data.fields #[(vS "restore" 378), (vS "restore" 379), (vS "/claim/cut.py" 380), (vI 123), (vI 2), (vI 0), (vI 0), (vI 35), (vR 142), (Value.bool Bool.true), (vI 181), (vR 143), Value.none, (vR 144), (vR 145), (vR 146), (vI 386), (vI 123), (vS "/claim/cut.py" 387)]) #[])),
(148, (oK "function" (.func (fD "restore" "restore" (nthS P1 8) Value.none "cpy313.difflib" 376 147)) #[])),
(149, (oK "tuple" d0 #[])),
(152, (cO "_law_views" 391 "_law_views" 392 393 133 1 149 150 Value.none Value.none 151 394 395)),
(153, (oK "function" (.func (fD "_law_views" "_law_views" (nthS P1 10) Value.none "law_nq0159_02" 389 152)) #[])),
(154, (oK "tuple" d0 #[])),
(156, (oK "tuple" (Data.seq #[(vS "word" 400), (vS "pair" 401), (vS "rows" 402), (vS "c" 403), (vS "mark" 404)] 0) #[])),
(157, (oK "tuple" d0 #[])),
(159, (cO "_law_delta" 397 "_law_delta" 398 399 149 2 154 155 (vR 156) (vR 157) 158 405 406)),
(160, (oK "function" (.func (fD "_law_delta" "_law_delta" (nthS P1 11) Value.none "law_nq0159_02" 389 159)) #[])),
(161, (oK "tuple" d0 #[])),
(164, (cO "_law_named" 408 "_law_named" 409 410 155 1 161 162 Value.none Value.none 163 411 412)),
(165, (oK "function" (.func (fD "_law_named" "_law_named" (nthS P1 12) Value.none "law_nq0159_02" 389 164)) #[])),
(166, (oK "tuple" d0 #[])),
(168, (oK "tuple" (Data.seq #[(vS "told" 417), (vS "sorter" 418), (vS "pair" 419), (vS "named" 420), (vS "k" 421), (vS "node" 422)] 0) #[])),
(169, (oK "tuple" d0 #[])),
(171, (cO "_law_sorter" 414 "_law_sorter" 415 416 157 1 166 167 (vR 168) (vR 169) 170 423 424)),
(172, (oK "function" (.func (fD "_law_sorter" "_law_sorter" (nthS P1 13) Value.none "law_nq0159_02" 389 171)) #[])),
(173, (oK "tuple" d0 #[])),
(175, (oK "tuple" (Data.seq #[(vS "sorter" 429)] 0) #[])),
(176, (oK "tuple" d0 #[])),
(178, (cO "_law_smooth" 426 "_law_smooth" 427 428 164 1 173 174 (vR 175) (vR 176) 177 430 431)),
(179, (oK "function" (.func (fD "_law_smooth" "_law_smooth" (nthS P1 14) Value.none "law_nq0159_02" 389 178)) #[])),
(180, (oK "tuple" d0 #[])),
(182, (oK "tuple" (Data.seq #[(vS "sorter" 436), (vS "groups" 437), (vS "fresh" 438)] 0) #[])),
(183, (oK "tuple" d0 #[])),
(185, (cO "_law_groups" 433 "_law_groups" 434 435 170 1 180 181 (vR 182) (vR 183) 184 439 440)),
(186, (oK "function" (.func (fD "_law_groups" "_law_groups" (nthS P1 15) Value.none "law_nq0159_02" 389 185)) #[])),
(187, (oK "tuple" d0 #[])),
(190, (cO "_law_leading" 442 "_law_leading" 443 444 178 1 187 188 Value.none Value.none 189 445 446)),
(191, (oK "function" (.func (fD "_law_leading" "_law_leading" (nthS P1 16) Value.none "law_nq0159_02" 389 190)) #[])),
(192, (oK "tuple" d0 #[])),
(195, (cO "_law_orders" 448 "_law_orders" 449 450 189 1 192 193 Value.none Value.none 194 451 452)),
(196, (oK "function" (.func (fD "_law_orders" "_law_orders" (nthS P1 17) Value.none "law_nq0159_02" 389 195)) #[])),
(197, (oK "tuple" d0 #[])),
(200, (cO "_law_fits" 454 "_law_fits" 455 456 194 2 197 198 Value.none Value.none 199 457 458)),
(201, (oK "function" (.func (fD "_law_fits" "_law_fits" (nthS P1 18) Value.none "law_nq0159_02" 389 200)) #[])),
(202, (oK "tuple" d0 #[])),
(204, (oK "tuple" (Data.seq #[(vS "one" 463), (vS "told" 464), (vS "sorter" 465), (vS "node" 466)] 0) #[])),
(205, (oK "tuple" d0 #[])),
(207, (cO "_law_taken" 460 "_law_taken" 461 462 199 2 202 203 (vR 204) (vR 205) 206 467 468)),
(208, (oK "function" (.func (fD "_law_taken" "_law_taken" (nthS P1 19) Value.none "law_nq0159_02" 389 207)) #[])),
(209, (oK "tuple" d0 #[])),
(211, (oK "tuple" (Data.seq #[(vS "one" 473), (vS "told" 474), (vS "found" 475), (vS "known" 476), (vS "place" 477), (vS "word" 478), (vS "k" 479), (vS "new" 480)] 0) #[])),
(212, (oK "tuple" d0 #[])),
(214, (cO "_law_exchanged" 470 "_law_exchanged" 471 472 209 2 209 210 (vR 211) (vR 212) 213 481 482)),
(215, (oK "function" (.func (fD "_law_exchanged" "_law_exchanged" (nthS P1 20) Value.none "law_nq0159_02" 389 214)) #[])),
(216, (oK "tuple" d0 #[])),
(219, (cO "law" 484 "law" 485 486 222 1 216 217 Value.none Value.none 218 487 488)),
(220, (oK "function" (.func (fD "law" "law" (nthS P1 21) Value.none "law_nq0159_02" 389 219)) #[]))]
noncomputable def addr1 : List Addr := [2, 3, 15, 17, 18, 20, 21, 29, 30, 32, 33, 35, 36, 37, 39, 40, 41, 42, 43, 46, 53, 54, 55, 56, 66, 67, 69, 70, 72, 73, 74, 76, 77, 79, 80, 81, 83, 84, 86, 87, 88, 91, 92, 93, 95, 96, 98, 99, 100, 102, 103, 105, 106, 107, 109, 110, 112, 113, 114, 116, 117, 119, 120, 121, 123, 124, 126, 127, 128, 130, 131, 133, 134, 135, 136, 137, 138, 139, 142, 144, 145, 147, 148, 149, 152, 153, 154, 156, 157, 159, 160, 161, 164, 165, 166, 168, 169, 171, 172, 173, 175, 176, 178, 179, 180, 182, 183, 185, 186, 187, 190, 191, 192, 195, 196, 197, 200, 201, 202, 204, 205, 207, 208, 209, 211, 212, 214, 215, 216, 219, 220]
noncomputable def hook1 : Hook := kHook frag1 addr1 (fun _ => by kernel_rfl)
noncomputable abbrev row1 : RowW := OpenRow.toRowW PySem.Challenge.rw_nq0159_02.row
theorem left1 : LeftO P1 view1 [Str.ofString "_NodeInfo"] (fun s => xlAt view1 [] s && recOk (RowW.records row1) s) (Hook.obs hook1) (Hook.val hook1) 3014 := fun w => by kernel_rfl
end Mine
end
set_option tactic.hygienic true
set_option maxRecDepth 100000 in
set_option maxHeartbeats 8000000 in
theorem PySem.Challenge.cw_nq0159_02_holds : PySem.Challenge.rw_nq0159_02.Holds := by
 w_on
 refine holds_law ((congrFun PySem.W.Fast.te9446332074065402090 _).trans (by kernel_rfl)) fun said => ?_
 refine holds_open (q := Mine.view1) (loose := [Str.ofString "_NodeInfo"]) (Xt := fun s => xlAt Mine.view1 [] s && recOk (RowW.records Mine.row1) s) (XP := XL Mine.view1 []) (Yf := Hook.obs Mine.hook1) (Ya := Hook.val Mine.hook1) (YP := Hook.says Mine.hook1) (N := 3014) Mine.left1 (Hook.of Mine.hook1) (Hook.keeps Mine.hook1) (fun s e => xl_of s (Bool.and_eq_true_iff.mp e).1) XL.keeps (by rfl) (by rfl) (by rfl) (fun s e => recFacts_of (Bool.and_eq_true_iff.mp e).2) (by rfl) (by first | assumption | decide +kernel) (by decide +kernel) ⟨rfl, rfl, rfl, rfl, rfl, by decide +kernel⟩ ?hw ?hc
 (case hw => w_witness2)
 intro w s₀ s₁ mg mb G Y fa o pm cd doc dV kV ho hd hcd hD hmg hg args vals as hpre hlay hrd hwl hlo
 have KX := kIn_of Y
 refine Ground.open G ?_
 intro T B D TE TW
 wrow_args hpre hlay hrd hwl hlo
 refine enter_call ?_
 rename Well _ _ _ _ => hW
 rename IntsAre _ _ => hI
 rename Heap.IsList _ _ _ => hL
 rename (¬ ((63 : Nat) : Int) < _) => hL63
 have hT := topRead_of T
 clear ho hd hcd hD
 have hfa : fa = 220 := by
   have e : mg (Str.ofString "law") = some (.ref 220) := mg_of KX hT.g (by kernel_rfl)
   have e2 : mg (Str.ofString "law") = some (.ref fa) := hmg
   rw [e] at e2
   cases e2
   rfl
 subst hfa
 refine Mine.law_join (p := ⟨_, w, _, s₁.heap, _, _, mg, mb, s₁.os, AllBare, KX, hT⟩) ?kb ?ks ?kc ?kl ?kf rfl rfl rfl hg (Mine.list_at hW hL) hI ?n ?R
 case n => omega
 case kb =>
   refine Mine.KB2.mk ?_ ?_
   case refine_1 => constructor <;> kernel_rfl
   all_goals kernel_rfl
 case kf => exact ⟨⟨_, _, rfl, rfl, rfl, rfl, rfl, rfl, rfl, rfl, rfl, rfl, by kernel_rfl⟩⟩
 case kl => constructor <;> exact ⟨by kernel_rfl, by kernel_rfl, ⟨⟨_, _, rfl, rfl, rfl, rfl, rfl, rfl, rfl, rfl, rfl, rfl, by kernel_rfl⟩⟩⟩
 case kc =>
   refine ⟨Mine.ownQ_of KX (mg_of KX hT.g (by kernel_rfl)) (show List.lookup (55 : Nat) _ = _ from rfl) (by kernel_rfl) ?_⟩
   intro n hn
   simp only [quietNames, List.mem_cons, List.not_mem_nil, or_false] at hn
   rcases hn with rfl | rfl | rfl | rfl <;> kernel_rfl
 case R => exact fun s' h1 h2 h3 => ⟨.inl ⟨.bool true, .bool true, [], rfl, fun _ => rfl, .bool true, by kernel_rfl, fun _ => ⟨.nil, fun a ha => nomatch ha⟩⟩, .of_keep h1, h2, h3⟩
 case ks =>
   refine Mine.KS2.mk ?_ ?_ ?_ ?_ ?_ ?_ ?_ ?_ ?_ ?_ ?_ ?_ ?_ ?_ ?_ ?_ ?_ ?_ ⟨66, _, ⟨⟨_, _, rfl, rfl, rfl, rfl, rfl, rfl, rfl, rfl, rfl, rfl, by kernel_rfl⟩⟩, rfl⟩ ⟨_, rfl⟩ ⟨_, rfl⟩ ?_
   case refine_1 =>
     refine Mine.KS.mk ?_ ?_ ?_ ?_ ?_ ?_ ?_ ?_ ?_ ?_ ?_ ?_ ?_ ?_ ?_ ?_ ?_ ?_ ?_ ?_ ?_ ?_
     all_goals first
       | (show Mine.KCls _ _; constructor <;> kernel_rfl)
       | (show Mine.KSlot _ _ _ _ _; constructor <;> first | decide | kernel_rfl)
       | (show Mine.KMeth _ _ _ _; refine Mine.meth_of ?_ ?_ ?_ ?_ ?_ ?_ ?_ ?_ <;> kernel_rfl)
       | (show Mine.FnK _ _ _ _; exact ⟨⟨_, _, rfl, rfl, rfl, rfl, rfl, rfl, rfl, rfl, rfl, rfl, by kernel_rfl⟩⟩)
       | kernel_rfl
   all_goals first
     | (show Mine.KMeth _ _ _ _; refine Mine.meth_of ?_ ?_ ?_ ?_ ?_ ?_ ?_ ?_ <;> kernel_rfl)
     | (show Mine.FnK _ _ _ _; exact ⟨⟨_, _, rfl, rfl, rfl, rfl, rfl, rfl, rfl, rfl, rfl, rfl, by kernel_rfl⟩⟩)
     | kernel_rfl
