/-
  All walks of the law's function (6).
-/
import Derived.Test.Qxb6605873aLk8n
import Derived.Test.Qxb6605873aLk80
import Derived.Test.Qxb6605873aLk81
import Derived.Test.Qxb6605873aLk82
import Derived.Test.Qxb6605873aLk9
